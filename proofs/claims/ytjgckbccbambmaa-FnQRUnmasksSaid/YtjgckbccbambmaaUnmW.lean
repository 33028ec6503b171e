/- DataMask.UnmaskBitMatrix: a mask is taken off a matrix. -/
import Derived.Test.YtjgckbccbambmaaMaskW
namespace Go.Proofs.Ytjgckbccbambmaa
open Go.RowKit
set_option linter.unusedVariables false

theorem maskVals (w : World) : Calls Try.prog 42 #[] w fun e w' => e = .returned (.slice (some ⟨w.heap.size, 0, none⟩) 8 8) ∧ w' = w.alloc (.cells #[.func (.func 58) #[] #[], .func (.func 59) #[] #[], .func (.func 60) #[] #[], .func (.func 61) #[] #[], .func (.func 62) #[] #[], .func (.func 63) #[] #[], .func (.func 64) #[] #[], .func (.func 65) #[] #[]] 76) := by
  go_enter Try.func42, Try.ntmps42
  go_wp2
  go_ret
  exact ⟨rfl, rfl⟩

/-- The bits with the mask taken off, as far as row i, column j. -/
def offTo (B : Nat → Nat → Bool) (m n i j : Nat) : Nat → Nat → Bool := fun x y => if x < n ∧ (y < i ∨ (y = i ∧ x < j)) ∧ mBit m x y = true then !B x y else B x y
def offAll (B : Nat → Nat → Bool) (m n : Nat) : Nat → Nat → Bool := fun x y => if x < n ∧ mBit m x y = true then !B x y else B x y
theorem off_at (B : Nat → Nat → Bool) (m n i j : Nat) : offTo B m n i j j i = B j i := by
  unfold offTo
  rw [if_neg]
  rintro ⟨_, h | h, _⟩ <;> omega
theorem off_step (B : Nat → Nat → Bool) (m n i j : Nat) (hj : j < n) (b : Bool) (hb : mBit m j i = b) (x y : Nat) : offTo B m n i (j + 1) x y = if x = j ∧ y = i then (if b then !B j i else B j i) else offTo B m n i j x y := by
  by_cases h1 : x = j ∧ y = i
  · rw [if_pos h1, h1.1, h1.2]
    unfold offTo
    rw [hb]
    cases b with
    | true => rw [if_pos ⟨hj, .inr ⟨rfl, by omega⟩, rfl⟩, if_pos rfl]
    | false => rw [if_neg (fun hh => by simp at hh), if_neg (by simp)]
  · rw [if_neg h1]
    unfold offTo
    have e : (x < n ∧ (y < i ∨ (y = i ∧ x < j + 1)) ∧ mBit m x y = true) ↔ (x < n ∧ (y < i ∨ (y = i ∧ x < j)) ∧ mBit m x y = true) := by
      constructor
      · rintro ⟨a, c, d⟩
        exact ⟨a, by omega, d⟩
      · rintro ⟨a, c, d⟩
        exact ⟨a, by omega, d⟩
    simp only [e]
theorem off_row (B : Nat → Nat → Bool) (m n i x y : Nat) (hy : y < n) : offTo B m n (i + 1) 0 x y = offTo B m n i n x y := by
  unfold offTo
  have e : (x < n ∧ (y < i + 1 ∨ (y = i + 1 ∧ x < 0)) ∧ mBit m x y = true) ↔ (x < n ∧ (y < i ∨ (y = i ∧ x < n)) ∧ mBit m x y = true) := by
    constructor
    · rintro ⟨a, c, d⟩
      exact ⟨a, by omega, d⟩
    · rintro ⟨a, c, d⟩
      exact ⟨a, by omega, d⟩
  simp only [e]

/-- The matrix, the mask off. -/
def OffOut (q g n rs m : Nat) (B : Nat → Nat → Bool) (w : World) (e : Ending) (w' : World) : Prop :=
  e = .returned (.tuple #[]) ∧ (∃ ws', IsMat w' q g 99 30 n n rs ws' (offAll B m n)) ∧ Below g w w'

set_option maxRecDepth 20000 in
set_option maxHeartbeats 4000000 in
theorem unmask0 (q g n rs : Nat) (ws : List Nat) (B : Nat → Nat → Bool) (w : World) (h : IsMat w q g 99 30 n n rs ws B) (hn : n ≤ 60) (hrs : rs ≤ 32) :
    Calls Try.prog 43 #[.agg #[.func (.func 58) #[] #[]], .pointer (some ⟨q, 0, none⟩), .int .i64 n] w (OffOut q g n rs 0 B w) := by
  have hql := h.lt
  have hgq := h.gq
  have HM := hid (h.below ((Below.refl _ _).alloc (Nat.le_refl _) (.cells #[.func (.func 58) #[] #[]] 76)) hql)
  have HF := hid (Arr.of_new w 76 #[.func (.func 58) #[] #[]])
  have HB := hid (show Below g w (w.alloc (.cells #[.func (.func 58) #[] #[]] 76)) from (Below.refl _ _).alloc (by omega) _)
  clear h
  go_enter Try.func43, Try.ntmps43
  go_wp2_with fail
  generalize w.alloc (.cells #[.func (.func 58) #[] #[]] 76) = w1 at *
  go_loopw [6] (fun iv wr => ∃ (i : Nat) (ws : List Nat), i ≤ n ∧ iv = .int .i64 (i : Nat) ∧ IsMat wr q g 99 30 n n rs ws (offTo B 0 n i 0) ∧ Arr wr w.heap.size 76 [.func (.func 58) #[] #[]] ∧ Below g w wr) (fun iv _ => n - (intOf iv).toNat)
  case atStart => exact ⟨0, ws, by omega, rfl, HM.out.congr (fun x y _ _ => by unfold offTo; rw [if_neg]; rintro ⟨_, hh | hh, _⟩ <;> omega), HF.out, HB.out⟩
  case round =>
    clear HM HF HB
    obtain ⟨i, ws2, hi, rfl, hM, hF, hB⟩ := hrel
    have HM := hid hM
    have HF := hid hF
    have HB := hid hB
    clear hM hF hB
    by_cases hlt : i < n
    · have hlt' : (i : Int) < (n : Int) := by omega
      go_wp2_with fail
      go_loopw [7] (fun jv wr => ∃ (j : Nat) (ws : List Nat), j ≤ n ∧ jv = .int .i64 (j : Nat) ∧ IsMat wr q g 99 30 n n rs ws (offTo B 0 n i j) ∧ Arr wr w.heap.size 76 [.func (.func 58) #[] #[]] ∧ Below g w wr) (fun jv _ => n - (intOf jv).toNat)
      case atStart => exact ⟨0, ws2, by omega, rfl, HM.out, HF.out, HB.out⟩
      case round =>
        clear HM HF HB
        obtain ⟨j, ws3, hj, rfl, hM, hF, hB⟩ := hrel
        have c0 : wr.cell? ⟨w.heap.size, 0, none⟩ = some (.func (.func 58) #[] #[]) := hF.cell? 0
        have HM := hid hM
        have HF := hid hF
        have HB := hid hB
        clear hM hF hB
        by_cases hj1 : j < n
        · have hj1' : (j : Int) < (n : Int) := by omega
          have mk := mask0 j i wr (by omega) (by omega)
          have hjr : j < 32 * rs := Nat.lt_of_lt_of_le hj1 HM.out.wr
          have fb := flipBit q g n n rs j i ws3 _ wr HM.out hjr hlt (by omega) hrs
          have HSH := hid (HM.out.sh.flip hjr hlt)
          have HST := hid (fun b hb x y => off_step B 0 n i j hj1 b hb x y)
          have HAT := hid (off_at B 0 n i j)
          cases hb : mBit 0 j i with
          | true =>
            rw [hb] at mk
            have HBV := hid hb
            clear hb
            go_wp2_with fail
            refine mk.mono ?_
            rintro e w5 ⟨rfl, rfl⟩
            clear mk
            go_wp2_with fail
            refine fb.mono ?_
            rintro e w6 ⟨rfl, rfl⟩
            clear fb
            go_wp2_with fail
            go_roundw
            case rel =>
              refine ⟨j + 1, _, by omega, by go_num, (HM.out.put HSH.out).congr (fun x y _ _ => ?_), HF.out.far (by simp; omega) _, HB.out.setCell (by simp) _⟩
              rw [HST.out true HBV.out]
              unfold put2
              rw [HAT.out]
              rfl
            case measure => simp [intOf]; omega
          | false =>
            rw [hb] at mk
            have HBV := hid hb
            clear hb fb
            go_wp2_with fail
            refine mk.mono ?_
            rintro e w5 ⟨rfl, rfl⟩
            clear mk
            go_wp2_with fail
            go_roundw
            case rel =>
              refine ⟨j + 1, ws3, by omega, by go_num, HM.out.congr (fun x y _ _ => ?_), HF.out, HB.out⟩
              rw [HST.out false HBV.out]
              by_cases h1 : x = j ∧ y = i
              · rw [if_pos h1, h1.1, h1.2, HAT.out]
                rfl
              · rw [if_neg h1]
            case measure => simp [intOf]; omega
        · obtain rfl : j = n := by omega
          have hj1' : ¬ (j : Int) < (j : Int) := by omega
          go_wp2_with fail
          go_roundw
          case rel => exact ⟨i + 1, ws3, by omega, by go_num, HM.out.congr (fun x y _ hy => (off_row B 0 j i x y hy).symm), HF.out, HB.out⟩
          case measure => simp [intOf]; omega
    · obtain rfl : i = n := by omega
      have hlt' : ¬ (i : Int) < (i : Int) := by omega
      go_wp2_with fail
      go_end0
      exact ⟨rfl, ⟨ws2, HM.out.congr (fun x y _ hy => by unfold offTo offAll; simp [hy])⟩, HB.out⟩

set_option maxRecDepth 20000 in
set_option maxHeartbeats 4000000 in
theorem unmask1 (q g n rs : Nat) (ws : List Nat) (B : Nat → Nat → Bool) (w : World) (h : IsMat w q g 99 30 n n rs ws B) (hn : n ≤ 60) (hrs : rs ≤ 32) :
    Calls Try.prog 43 #[.agg #[.func (.func 59) #[] #[]], .pointer (some ⟨q, 0, none⟩), .int .i64 n] w (OffOut q g n rs 1 B w) := by
  have hql := h.lt
  have hgq := h.gq
  have HM := hid (h.below ((Below.refl _ _).alloc (Nat.le_refl _) (.cells #[.func (.func 59) #[] #[]] 76)) hql)
  have HF := hid (Arr.of_new w 76 #[.func (.func 59) #[] #[]])
  have HB := hid (show Below g w (w.alloc (.cells #[.func (.func 59) #[] #[]] 76)) from (Below.refl _ _).alloc (by omega) _)
  clear h
  go_enter Try.func43, Try.ntmps43
  go_wp2_with fail
  generalize w.alloc (.cells #[.func (.func 59) #[] #[]] 76) = w1 at *
  go_loopw [6] (fun iv wr => ∃ (i : Nat) (ws : List Nat), i ≤ n ∧ iv = .int .i64 (i : Nat) ∧ IsMat wr q g 99 30 n n rs ws (offTo B 1 n i 0) ∧ Arr wr w.heap.size 76 [.func (.func 59) #[] #[]] ∧ Below g w wr) (fun iv _ => n - (intOf iv).toNat)
  case atStart => exact ⟨0, ws, by omega, rfl, HM.out.congr (fun x y _ _ => by unfold offTo; rw [if_neg]; rintro ⟨_, hh | hh, _⟩ <;> omega), HF.out, HB.out⟩
  case round =>
    clear HM HF HB
    obtain ⟨i, ws2, hi, rfl, hM, hF, hB⟩ := hrel
    have HM := hid hM
    have HF := hid hF
    have HB := hid hB
    clear hM hF hB
    by_cases hlt : i < n
    · have hlt' : (i : Int) < (n : Int) := by omega
      go_wp2_with fail
      go_loopw [7] (fun jv wr => ∃ (j : Nat) (ws : List Nat), j ≤ n ∧ jv = .int .i64 (j : Nat) ∧ IsMat wr q g 99 30 n n rs ws (offTo B 1 n i j) ∧ Arr wr w.heap.size 76 [.func (.func 59) #[] #[]] ∧ Below g w wr) (fun jv _ => n - (intOf jv).toNat)
      case atStart => exact ⟨0, ws2, by omega, rfl, HM.out, HF.out, HB.out⟩
      case round =>
        clear HM HF HB
        obtain ⟨j, ws3, hj, rfl, hM, hF, hB⟩ := hrel
        have c0 : wr.cell? ⟨w.heap.size, 0, none⟩ = some (.func (.func 59) #[] #[]) := hF.cell? 0
        have HM := hid hM
        have HF := hid hF
        have HB := hid hB
        clear hM hF hB
        by_cases hj1 : j < n
        · have hj1' : (j : Int) < (n : Int) := by omega
          have mk := mask1 j i wr (by omega) (by omega)
          have hjr : j < 32 * rs := Nat.lt_of_lt_of_le hj1 HM.out.wr
          have fb := flipBit q g n n rs j i ws3 _ wr HM.out hjr hlt (by omega) hrs
          have HSH := hid (HM.out.sh.flip hjr hlt)
          have HST := hid (fun b hb x y => off_step B 1 n i j hj1 b hb x y)
          have HAT := hid (off_at B 1 n i j)
          cases hb : mBit 1 j i with
          | true =>
            rw [hb] at mk
            have HBV := hid hb
            clear hb
            go_wp2_with fail
            refine mk.mono ?_
            rintro e w5 ⟨rfl, rfl⟩
            clear mk
            go_wp2_with fail
            refine fb.mono ?_
            rintro e w6 ⟨rfl, rfl⟩
            clear fb
            go_wp2_with fail
            go_roundw
            case rel =>
              refine ⟨j + 1, _, by omega, by go_num, (HM.out.put HSH.out).congr (fun x y _ _ => ?_), HF.out.far (by simp; omega) _, HB.out.setCell (by simp) _⟩
              rw [HST.out true HBV.out]
              unfold put2
              rw [HAT.out]
              rfl
            case measure => simp [intOf]; omega
          | false =>
            rw [hb] at mk
            have HBV := hid hb
            clear hb fb
            go_wp2_with fail
            refine mk.mono ?_
            rintro e w5 ⟨rfl, rfl⟩
            clear mk
            go_wp2_with fail
            go_roundw
            case rel =>
              refine ⟨j + 1, ws3, by omega, by go_num, HM.out.congr (fun x y _ _ => ?_), HF.out, HB.out⟩
              rw [HST.out false HBV.out]
              by_cases h1 : x = j ∧ y = i
              · rw [if_pos h1, h1.1, h1.2, HAT.out]
                rfl
              · rw [if_neg h1]
            case measure => simp [intOf]; omega
        · obtain rfl : j = n := by omega
          have hj1' : ¬ (j : Int) < (j : Int) := by omega
          go_wp2_with fail
          go_roundw
          case rel => exact ⟨i + 1, ws3, by omega, by go_num, HM.out.congr (fun x y _ hy => (off_row B 1 j i x y hy).symm), HF.out, HB.out⟩
          case measure => simp [intOf]; omega
    · obtain rfl : i = n := by omega
      have hlt' : ¬ (i : Int) < (i : Int) := by omega
      go_wp2_with fail
      go_end0
      exact ⟨rfl, ⟨ws2, HM.out.congr (fun x y _ hy => by unfold offTo offAll; simp [hy])⟩, HB.out⟩

set_option maxRecDepth 20000 in
set_option maxHeartbeats 4000000 in
theorem unmask2 (q g n rs : Nat) (ws : List Nat) (B : Nat → Nat → Bool) (w : World) (h : IsMat w q g 99 30 n n rs ws B) (hn : n ≤ 60) (hrs : rs ≤ 32) :
    Calls Try.prog 43 #[.agg #[.func (.func 60) #[] #[]], .pointer (some ⟨q, 0, none⟩), .int .i64 n] w (OffOut q g n rs 2 B w) := by
  have hql := h.lt
  have hgq := h.gq
  have HM := hid (h.below ((Below.refl _ _).alloc (Nat.le_refl _) (.cells #[.func (.func 60) #[] #[]] 76)) hql)
  have HF := hid (Arr.of_new w 76 #[.func (.func 60) #[] #[]])
  have HB := hid (show Below g w (w.alloc (.cells #[.func (.func 60) #[] #[]] 76)) from (Below.refl _ _).alloc (by omega) _)
  clear h
  go_enter Try.func43, Try.ntmps43
  go_wp2_with fail
  generalize w.alloc (.cells #[.func (.func 60) #[] #[]] 76) = w1 at *
  go_loopw [6] (fun iv wr => ∃ (i : Nat) (ws : List Nat), i ≤ n ∧ iv = .int .i64 (i : Nat) ∧ IsMat wr q g 99 30 n n rs ws (offTo B 2 n i 0) ∧ Arr wr w.heap.size 76 [.func (.func 60) #[] #[]] ∧ Below g w wr) (fun iv _ => n - (intOf iv).toNat)
  case atStart => exact ⟨0, ws, by omega, rfl, HM.out.congr (fun x y _ _ => by unfold offTo; rw [if_neg]; rintro ⟨_, hh | hh, _⟩ <;> omega), HF.out, HB.out⟩
  case round =>
    clear HM HF HB
    obtain ⟨i, ws2, hi, rfl, hM, hF, hB⟩ := hrel
    have HM := hid hM
    have HF := hid hF
    have HB := hid hB
    clear hM hF hB
    by_cases hlt : i < n
    · have hlt' : (i : Int) < (n : Int) := by omega
      go_wp2_with fail
      go_loopw [7] (fun jv wr => ∃ (j : Nat) (ws : List Nat), j ≤ n ∧ jv = .int .i64 (j : Nat) ∧ IsMat wr q g 99 30 n n rs ws (offTo B 2 n i j) ∧ Arr wr w.heap.size 76 [.func (.func 60) #[] #[]] ∧ Below g w wr) (fun jv _ => n - (intOf jv).toNat)
      case atStart => exact ⟨0, ws2, by omega, rfl, HM.out, HF.out, HB.out⟩
      case round =>
        clear HM HF HB
        obtain ⟨j, ws3, hj, rfl, hM, hF, hB⟩ := hrel
        have c0 : wr.cell? ⟨w.heap.size, 0, none⟩ = some (.func (.func 60) #[] #[]) := hF.cell? 0
        have HM := hid hM
        have HF := hid hF
        have HB := hid hB
        clear hM hF hB
        by_cases hj1 : j < n
        · have hj1' : (j : Int) < (n : Int) := by omega
          have mk := mask2 j i wr (by omega) (by omega)
          have hjr : j < 32 * rs := Nat.lt_of_lt_of_le hj1 HM.out.wr
          have fb := flipBit q g n n rs j i ws3 _ wr HM.out hjr hlt (by omega) hrs
          have HSH := hid (HM.out.sh.flip hjr hlt)
          have HST := hid (fun b hb x y => off_step B 2 n i j hj1 b hb x y)
          have HAT := hid (off_at B 2 n i j)
          cases hb : mBit 2 j i with
          | true =>
            rw [hb] at mk
            have HBV := hid hb
            clear hb
            go_wp2_with fail
            refine mk.mono ?_
            rintro e w5 ⟨rfl, rfl⟩
            clear mk
            go_wp2_with fail
            refine fb.mono ?_
            rintro e w6 ⟨rfl, rfl⟩
            clear fb
            go_wp2_with fail
            go_roundw
            case rel =>
              refine ⟨j + 1, _, by omega, by go_num, (HM.out.put HSH.out).congr (fun x y _ _ => ?_), HF.out.far (by simp; omega) _, HB.out.setCell (by simp) _⟩
              rw [HST.out true HBV.out]
              unfold put2
              rw [HAT.out]
              rfl
            case measure => simp [intOf]; omega
          | false =>
            rw [hb] at mk
            have HBV := hid hb
            clear hb fb
            go_wp2_with fail
            refine mk.mono ?_
            rintro e w5 ⟨rfl, rfl⟩
            clear mk
            go_wp2_with fail
            go_roundw
            case rel =>
              refine ⟨j + 1, ws3, by omega, by go_num, HM.out.congr (fun x y _ _ => ?_), HF.out, HB.out⟩
              rw [HST.out false HBV.out]
              by_cases h1 : x = j ∧ y = i
              · rw [if_pos h1, h1.1, h1.2, HAT.out]
                rfl
              · rw [if_neg h1]
            case measure => simp [intOf]; omega
        · obtain rfl : j = n := by omega
          have hj1' : ¬ (j : Int) < (j : Int) := by omega
          go_wp2_with fail
          go_roundw
          case rel => exact ⟨i + 1, ws3, by omega, by go_num, HM.out.congr (fun x y _ hy => (off_row B 2 j i x y hy).symm), HF.out, HB.out⟩
          case measure => simp [intOf]; omega
    · obtain rfl : i = n := by omega
      have hlt' : ¬ (i : Int) < (i : Int) := by omega
      go_wp2_with fail
      go_end0
      exact ⟨rfl, ⟨ws2, HM.out.congr (fun x y _ hy => by unfold offTo offAll; simp [hy])⟩, HB.out⟩

set_option maxRecDepth 20000 in
set_option maxHeartbeats 4000000 in
theorem unmask3 (q g n rs : Nat) (ws : List Nat) (B : Nat → Nat → Bool) (w : World) (h : IsMat w q g 99 30 n n rs ws B) (hn : n ≤ 60) (hrs : rs ≤ 32) :
    Calls Try.prog 43 #[.agg #[.func (.func 61) #[] #[]], .pointer (some ⟨q, 0, none⟩), .int .i64 n] w (OffOut q g n rs 3 B w) := by
  have hql := h.lt
  have hgq := h.gq
  have HM := hid (h.below ((Below.refl _ _).alloc (Nat.le_refl _) (.cells #[.func (.func 61) #[] #[]] 76)) hql)
  have HF := hid (Arr.of_new w 76 #[.func (.func 61) #[] #[]])
  have HB := hid (show Below g w (w.alloc (.cells #[.func (.func 61) #[] #[]] 76)) from (Below.refl _ _).alloc (by omega) _)
  clear h
  go_enter Try.func43, Try.ntmps43
  go_wp2_with fail
  generalize w.alloc (.cells #[.func (.func 61) #[] #[]] 76) = w1 at *
  go_loopw [6] (fun iv wr => ∃ (i : Nat) (ws : List Nat), i ≤ n ∧ iv = .int .i64 (i : Nat) ∧ IsMat wr q g 99 30 n n rs ws (offTo B 3 n i 0) ∧ Arr wr w.heap.size 76 [.func (.func 61) #[] #[]] ∧ Below g w wr) (fun iv _ => n - (intOf iv).toNat)
  case atStart => exact ⟨0, ws, by omega, rfl, HM.out.congr (fun x y _ _ => by unfold offTo; rw [if_neg]; rintro ⟨_, hh | hh, _⟩ <;> omega), HF.out, HB.out⟩
  case round =>
    clear HM HF HB
    obtain ⟨i, ws2, hi, rfl, hM, hF, hB⟩ := hrel
    have HM := hid hM
    have HF := hid hF
    have HB := hid hB
    clear hM hF hB
    by_cases hlt : i < n
    · have hlt' : (i : Int) < (n : Int) := by omega
      go_wp2_with fail
      go_loopw [7] (fun jv wr => ∃ (j : Nat) (ws : List Nat), j ≤ n ∧ jv = .int .i64 (j : Nat) ∧ IsMat wr q g 99 30 n n rs ws (offTo B 3 n i j) ∧ Arr wr w.heap.size 76 [.func (.func 61) #[] #[]] ∧ Below g w wr) (fun jv _ => n - (intOf jv).toNat)
      case atStart => exact ⟨0, ws2, by omega, rfl, HM.out, HF.out, HB.out⟩
      case round =>
        clear HM HF HB
        obtain ⟨j, ws3, hj, rfl, hM, hF, hB⟩ := hrel
        have c0 : wr.cell? ⟨w.heap.size, 0, none⟩ = some (.func (.func 61) #[] #[]) := hF.cell? 0
        have HM := hid hM
        have HF := hid hF
        have HB := hid hB
        clear hM hF hB
        by_cases hj1 : j < n
        · have hj1' : (j : Int) < (n : Int) := by omega
          have mk := mask3 j i wr (by omega) (by omega)
          have hjr : j < 32 * rs := Nat.lt_of_lt_of_le hj1 HM.out.wr
          have fb := flipBit q g n n rs j i ws3 _ wr HM.out hjr hlt (by omega) hrs
          have HSH := hid (HM.out.sh.flip hjr hlt)
          have HST := hid (fun b hb x y => off_step B 3 n i j hj1 b hb x y)
          have HAT := hid (off_at B 3 n i j)
          cases hb : mBit 3 j i with
          | true =>
            rw [hb] at mk
            have HBV := hid hb
            clear hb
            go_wp2_with fail
            refine mk.mono ?_
            rintro e w5 ⟨rfl, rfl⟩
            clear mk
            go_wp2_with fail
            refine fb.mono ?_
            rintro e w6 ⟨rfl, rfl⟩
            clear fb
            go_wp2_with fail
            go_roundw
            case rel =>
              refine ⟨j + 1, _, by omega, by go_num, (HM.out.put HSH.out).congr (fun x y _ _ => ?_), HF.out.far (by simp; omega) _, HB.out.setCell (by simp) _⟩
              rw [HST.out true HBV.out]
              unfold put2
              rw [HAT.out]
              rfl
            case measure => simp [intOf]; omega
          | false =>
            rw [hb] at mk
            have HBV := hid hb
            clear hb fb
            go_wp2_with fail
            refine mk.mono ?_
            rintro e w5 ⟨rfl, rfl⟩
            clear mk
            go_wp2_with fail
            go_roundw
            case rel =>
              refine ⟨j + 1, ws3, by omega, by go_num, HM.out.congr (fun x y _ _ => ?_), HF.out, HB.out⟩
              rw [HST.out false HBV.out]
              by_cases h1 : x = j ∧ y = i
              · rw [if_pos h1, h1.1, h1.2, HAT.out]
                rfl
              · rw [if_neg h1]
            case measure => simp [intOf]; omega
        · obtain rfl : j = n := by omega
          have hj1' : ¬ (j : Int) < (j : Int) := by omega
          go_wp2_with fail
          go_roundw
          case rel => exact ⟨i + 1, ws3, by omega, by go_num, HM.out.congr (fun x y _ hy => (off_row B 3 j i x y hy).symm), HF.out, HB.out⟩
          case measure => simp [intOf]; omega
    · obtain rfl : i = n := by omega
      have hlt' : ¬ (i : Int) < (i : Int) := by omega
      go_wp2_with fail
      go_end0
      exact ⟨rfl, ⟨ws2, HM.out.congr (fun x y _ hy => by unfold offTo offAll; simp [hy])⟩, HB.out⟩

set_option maxRecDepth 20000 in
set_option maxHeartbeats 4000000 in
theorem unmask4 (q g n rs : Nat) (ws : List Nat) (B : Nat → Nat → Bool) (w : World) (h : IsMat w q g 99 30 n n rs ws B) (hn : n ≤ 60) (hrs : rs ≤ 32) :
    Calls Try.prog 43 #[.agg #[.func (.func 62) #[] #[]], .pointer (some ⟨q, 0, none⟩), .int .i64 n] w (OffOut q g n rs 4 B w) := by
  have hql := h.lt
  have hgq := h.gq
  have HM := hid (h.below ((Below.refl _ _).alloc (Nat.le_refl _) (.cells #[.func (.func 62) #[] #[]] 76)) hql)
  have HF := hid (Arr.of_new w 76 #[.func (.func 62) #[] #[]])
  have HB := hid (show Below g w (w.alloc (.cells #[.func (.func 62) #[] #[]] 76)) from (Below.refl _ _).alloc (by omega) _)
  clear h
  go_enter Try.func43, Try.ntmps43
  go_wp2_with fail
  generalize w.alloc (.cells #[.func (.func 62) #[] #[]] 76) = w1 at *
  go_loopw [6] (fun iv wr => ∃ (i : Nat) (ws : List Nat), i ≤ n ∧ iv = .int .i64 (i : Nat) ∧ IsMat wr q g 99 30 n n rs ws (offTo B 4 n i 0) ∧ Arr wr w.heap.size 76 [.func (.func 62) #[] #[]] ∧ Below g w wr) (fun iv _ => n - (intOf iv).toNat)
  case atStart => exact ⟨0, ws, by omega, rfl, HM.out.congr (fun x y _ _ => by unfold offTo; rw [if_neg]; rintro ⟨_, hh | hh, _⟩ <;> omega), HF.out, HB.out⟩
  case round =>
    clear HM HF HB
    obtain ⟨i, ws2, hi, rfl, hM, hF, hB⟩ := hrel
    have HM := hid hM
    have HF := hid hF
    have HB := hid hB
    clear hM hF hB
    by_cases hlt : i < n
    · have hlt' : (i : Int) < (n : Int) := by omega
      go_wp2_with fail
      go_loopw [7] (fun jv wr => ∃ (j : Nat) (ws : List Nat), j ≤ n ∧ jv = .int .i64 (j : Nat) ∧ IsMat wr q g 99 30 n n rs ws (offTo B 4 n i j) ∧ Arr wr w.heap.size 76 [.func (.func 62) #[] #[]] ∧ Below g w wr) (fun jv _ => n - (intOf jv).toNat)
      case atStart => exact ⟨0, ws2, by omega, rfl, HM.out, HF.out, HB.out⟩
      case round =>
        clear HM HF HB
        obtain ⟨j, ws3, hj, rfl, hM, hF, hB⟩ := hrel
        have c0 : wr.cell? ⟨w.heap.size, 0, none⟩ = some (.func (.func 62) #[] #[]) := hF.cell? 0
        have HM := hid hM
        have HF := hid hF
        have HB := hid hB
        clear hM hF hB
        by_cases hj1 : j < n
        · have hj1' : (j : Int) < (n : Int) := by omega
          have mk := mask4 j i wr (by omega) (by omega)
          have hjr : j < 32 * rs := Nat.lt_of_lt_of_le hj1 HM.out.wr
          have fb := flipBit q g n n rs j i ws3 _ wr HM.out hjr hlt (by omega) hrs
          have HSH := hid (HM.out.sh.flip hjr hlt)
          have HST := hid (fun b hb x y => off_step B 4 n i j hj1 b hb x y)
          have HAT := hid (off_at B 4 n i j)
          cases hb : mBit 4 j i with
          | true =>
            rw [hb] at mk
            have HBV := hid hb
            clear hb
            go_wp2_with fail
            refine mk.mono ?_
            rintro e w5 ⟨rfl, rfl⟩
            clear mk
            go_wp2_with fail
            refine fb.mono ?_
            rintro e w6 ⟨rfl, rfl⟩
            clear fb
            go_wp2_with fail
            go_roundw
            case rel =>
              refine ⟨j + 1, _, by omega, by go_num, (HM.out.put HSH.out).congr (fun x y _ _ => ?_), HF.out.far (by simp; omega) _, HB.out.setCell (by simp) _⟩
              rw [HST.out true HBV.out]
              unfold put2
              rw [HAT.out]
              rfl
            case measure => simp [intOf]; omega
          | false =>
            rw [hb] at mk
            have HBV := hid hb
            clear hb fb
            go_wp2_with fail
            refine mk.mono ?_
            rintro e w5 ⟨rfl, rfl⟩
            clear mk
            go_wp2_with fail
            go_roundw
            case rel =>
              refine ⟨j + 1, ws3, by omega, by go_num, HM.out.congr (fun x y _ _ => ?_), HF.out, HB.out⟩
              rw [HST.out false HBV.out]
              by_cases h1 : x = j ∧ y = i
              · rw [if_pos h1, h1.1, h1.2, HAT.out]
                rfl
              · rw [if_neg h1]
            case measure => simp [intOf]; omega
        · obtain rfl : j = n := by omega
          have hj1' : ¬ (j : Int) < (j : Int) := by omega
          go_wp2_with fail
          go_roundw
          case rel => exact ⟨i + 1, ws3, by omega, by go_num, HM.out.congr (fun x y _ hy => (off_row B 4 j i x y hy).symm), HF.out, HB.out⟩
          case measure => simp [intOf]; omega
    · obtain rfl : i = n := by omega
      have hlt' : ¬ (i : Int) < (i : Int) := by omega
      go_wp2_with fail
      go_end0
      exact ⟨rfl, ⟨ws2, HM.out.congr (fun x y _ hy => by unfold offTo offAll; simp [hy])⟩, HB.out⟩

set_option maxRecDepth 20000 in
set_option maxHeartbeats 4000000 in
theorem unmask5 (q g n rs : Nat) (ws : List Nat) (B : Nat → Nat → Bool) (w : World) (h : IsMat w q g 99 30 n n rs ws B) (hn : n ≤ 60) (hrs : rs ≤ 32) :
    Calls Try.prog 43 #[.agg #[.func (.func 63) #[] #[]], .pointer (some ⟨q, 0, none⟩), .int .i64 n] w (OffOut q g n rs 5 B w) := by
  have hql := h.lt
  have hgq := h.gq
  have HM := hid (h.below ((Below.refl _ _).alloc (Nat.le_refl _) (.cells #[.func (.func 63) #[] #[]] 76)) hql)
  have HF := hid (Arr.of_new w 76 #[.func (.func 63) #[] #[]])
  have HB := hid (show Below g w (w.alloc (.cells #[.func (.func 63) #[] #[]] 76)) from (Below.refl _ _).alloc (by omega) _)
  clear h
  go_enter Try.func43, Try.ntmps43
  go_wp2_with fail
  generalize w.alloc (.cells #[.func (.func 63) #[] #[]] 76) = w1 at *
  go_loopw [6] (fun iv wr => ∃ (i : Nat) (ws : List Nat), i ≤ n ∧ iv = .int .i64 (i : Nat) ∧ IsMat wr q g 99 30 n n rs ws (offTo B 5 n i 0) ∧ Arr wr w.heap.size 76 [.func (.func 63) #[] #[]] ∧ Below g w wr) (fun iv _ => n - (intOf iv).toNat)
  case atStart => exact ⟨0, ws, by omega, rfl, HM.out.congr (fun x y _ _ => by unfold offTo; rw [if_neg]; rintro ⟨_, hh | hh, _⟩ <;> omega), HF.out, HB.out⟩
  case round =>
    clear HM HF HB
    obtain ⟨i, ws2, hi, rfl, hM, hF, hB⟩ := hrel
    have HM := hid hM
    have HF := hid hF
    have HB := hid hB
    clear hM hF hB
    by_cases hlt : i < n
    · have hlt' : (i : Int) < (n : Int) := by omega
      go_wp2_with fail
      go_loopw [7] (fun jv wr => ∃ (j : Nat) (ws : List Nat), j ≤ n ∧ jv = .int .i64 (j : Nat) ∧ IsMat wr q g 99 30 n n rs ws (offTo B 5 n i j) ∧ Arr wr w.heap.size 76 [.func (.func 63) #[] #[]] ∧ Below g w wr) (fun jv _ => n - (intOf jv).toNat)
      case atStart => exact ⟨0, ws2, by omega, rfl, HM.out, HF.out, HB.out⟩
      case round =>
        clear HM HF HB
        obtain ⟨j, ws3, hj, rfl, hM, hF, hB⟩ := hrel
        have c0 : wr.cell? ⟨w.heap.size, 0, none⟩ = some (.func (.func 63) #[] #[]) := hF.cell? 0
        have HM := hid hM
        have HF := hid hF
        have HB := hid hB
        clear hM hF hB
        by_cases hj1 : j < n
        · have hj1' : (j : Int) < (n : Int) := by omega
          have mk := mask5 j i wr (by omega) (by omega)
          have hjr : j < 32 * rs := Nat.lt_of_lt_of_le hj1 HM.out.wr
          have fb := flipBit q g n n rs j i ws3 _ wr HM.out hjr hlt (by omega) hrs
          have HSH := hid (HM.out.sh.flip hjr hlt)
          have HST := hid (fun b hb x y => off_step B 5 n i j hj1 b hb x y)
          have HAT := hid (off_at B 5 n i j)
          cases hb : mBit 5 j i with
          | true =>
            rw [hb] at mk
            have HBV := hid hb
            clear hb
            go_wp2_with fail
            refine mk.mono ?_
            rintro e w5 ⟨rfl, rfl⟩
            clear mk
            go_wp2_with fail
            refine fb.mono ?_
            rintro e w6 ⟨rfl, rfl⟩
            clear fb
            go_wp2_with fail
            go_roundw
            case rel =>
              refine ⟨j + 1, _, by omega, by go_num, (HM.out.put HSH.out).congr (fun x y _ _ => ?_), HF.out.far (by simp; omega) _, HB.out.setCell (by simp) _⟩
              rw [HST.out true HBV.out]
              unfold put2
              rw [HAT.out]
              rfl
            case measure => simp [intOf]; omega
          | false =>
            rw [hb] at mk
            have HBV := hid hb
            clear hb fb
            go_wp2_with fail
            refine mk.mono ?_
            rintro e w5 ⟨rfl, rfl⟩
            clear mk
            go_wp2_with fail
            go_roundw
            case rel =>
              refine ⟨j + 1, ws3, by omega, by go_num, HM.out.congr (fun x y _ _ => ?_), HF.out, HB.out⟩
              rw [HST.out false HBV.out]
              by_cases h1 : x = j ∧ y = i
              · rw [if_pos h1, h1.1, h1.2, HAT.out]
                rfl
              · rw [if_neg h1]
            case measure => simp [intOf]; omega
        · obtain rfl : j = n := by omega
          have hj1' : ¬ (j : Int) < (j : Int) := by omega
          go_wp2_with fail
          go_roundw
          case rel => exact ⟨i + 1, ws3, by omega, by go_num, HM.out.congr (fun x y _ hy => (off_row B 5 j i x y hy).symm), HF.out, HB.out⟩
          case measure => simp [intOf]; omega
    · obtain rfl : i = n := by omega
      have hlt' : ¬ (i : Int) < (i : Int) := by omega
      go_wp2_with fail
      go_end0
      exact ⟨rfl, ⟨ws2, HM.out.congr (fun x y _ hy => by unfold offTo offAll; simp [hy])⟩, HB.out⟩

set_option maxRecDepth 20000 in
set_option maxHeartbeats 4000000 in
theorem unmask6 (q g n rs : Nat) (ws : List Nat) (B : Nat → Nat → Bool) (w : World) (h : IsMat w q g 99 30 n n rs ws B) (hn : n ≤ 60) (hrs : rs ≤ 32) :
    Calls Try.prog 43 #[.agg #[.func (.func 64) #[] #[]], .pointer (some ⟨q, 0, none⟩), .int .i64 n] w (OffOut q g n rs 6 B w) := by
  have hql := h.lt
  have hgq := h.gq
  have HM := hid (h.below ((Below.refl _ _).alloc (Nat.le_refl _) (.cells #[.func (.func 64) #[] #[]] 76)) hql)
  have HF := hid (Arr.of_new w 76 #[.func (.func 64) #[] #[]])
  have HB := hid (show Below g w (w.alloc (.cells #[.func (.func 64) #[] #[]] 76)) from (Below.refl _ _).alloc (by omega) _)
  clear h
  go_enter Try.func43, Try.ntmps43
  go_wp2_with fail
  generalize w.alloc (.cells #[.func (.func 64) #[] #[]] 76) = w1 at *
  go_loopw [6] (fun iv wr => ∃ (i : Nat) (ws : List Nat), i ≤ n ∧ iv = .int .i64 (i : Nat) ∧ IsMat wr q g 99 30 n n rs ws (offTo B 6 n i 0) ∧ Arr wr w.heap.size 76 [.func (.func 64) #[] #[]] ∧ Below g w wr) (fun iv _ => n - (intOf iv).toNat)
  case atStart => exact ⟨0, ws, by omega, rfl, HM.out.congr (fun x y _ _ => by unfold offTo; rw [if_neg]; rintro ⟨_, hh | hh, _⟩ <;> omega), HF.out, HB.out⟩
  case round =>
    clear HM HF HB
    obtain ⟨i, ws2, hi, rfl, hM, hF, hB⟩ := hrel
    have HM := hid hM
    have HF := hid hF
    have HB := hid hB
    clear hM hF hB
    by_cases hlt : i < n
    · have hlt' : (i : Int) < (n : Int) := by omega
      go_wp2_with fail
      go_loopw [7] (fun jv wr => ∃ (j : Nat) (ws : List Nat), j ≤ n ∧ jv = .int .i64 (j : Nat) ∧ IsMat wr q g 99 30 n n rs ws (offTo B 6 n i j) ∧ Arr wr w.heap.size 76 [.func (.func 64) #[] #[]] ∧ Below g w wr) (fun jv _ => n - (intOf jv).toNat)
      case atStart => exact ⟨0, ws2, by omega, rfl, HM.out, HF.out, HB.out⟩
      case round =>
        clear HM HF HB
        obtain ⟨j, ws3, hj, rfl, hM, hF, hB⟩ := hrel
        have c0 : wr.cell? ⟨w.heap.size, 0, none⟩ = some (.func (.func 64) #[] #[]) := hF.cell? 0
        have HM := hid hM
        have HF := hid hF
        have HB := hid hB
        clear hM hF hB
        by_cases hj1 : j < n
        · have hj1' : (j : Int) < (n : Int) := by omega
          have mk := mask6 j i wr (by omega) (by omega)
          have hjr : j < 32 * rs := Nat.lt_of_lt_of_le hj1 HM.out.wr
          have fb := flipBit q g n n rs j i ws3 _ wr HM.out hjr hlt (by omega) hrs
          have HSH := hid (HM.out.sh.flip hjr hlt)
          have HST := hid (fun b hb x y => off_step B 6 n i j hj1 b hb x y)
          have HAT := hid (off_at B 6 n i j)
          cases hb : mBit 6 j i with
          | true =>
            rw [hb] at mk
            have HBV := hid hb
            clear hb
            go_wp2_with fail
            refine mk.mono ?_
            rintro e w5 ⟨rfl, rfl⟩
            clear mk
            go_wp2_with fail
            refine fb.mono ?_
            rintro e w6 ⟨rfl, rfl⟩
            clear fb
            go_wp2_with fail
            go_roundw
            case rel =>
              refine ⟨j + 1, _, by omega, by go_num, (HM.out.put HSH.out).congr (fun x y _ _ => ?_), HF.out.far (by simp; omega) _, HB.out.setCell (by simp) _⟩
              rw [HST.out true HBV.out]
              unfold put2
              rw [HAT.out]
              rfl
            case measure => simp [intOf]; omega
          | false =>
            rw [hb] at mk
            have HBV := hid hb
            clear hb fb
            go_wp2_with fail
            refine mk.mono ?_
            rintro e w5 ⟨rfl, rfl⟩
            clear mk
            go_wp2_with fail
            go_roundw
            case rel =>
              refine ⟨j + 1, ws3, by omega, by go_num, HM.out.congr (fun x y _ _ => ?_), HF.out, HB.out⟩
              rw [HST.out false HBV.out]
              by_cases h1 : x = j ∧ y = i
              · rw [if_pos h1, h1.1, h1.2, HAT.out]
                rfl
              · rw [if_neg h1]
            case measure => simp [intOf]; omega
        · obtain rfl : j = n := by omega
          have hj1' : ¬ (j : Int) < (j : Int) := by omega
          go_wp2_with fail
          go_roundw
          case rel => exact ⟨i + 1, ws3, by omega, by go_num, HM.out.congr (fun x y _ hy => (off_row B 6 j i x y hy).symm), HF.out, HB.out⟩
          case measure => simp [intOf]; omega
    · obtain rfl : i = n := by omega
      have hlt' : ¬ (i : Int) < (i : Int) := by omega
      go_wp2_with fail
      go_end0
      exact ⟨rfl, ⟨ws2, HM.out.congr (fun x y _ hy => by unfold offTo offAll; simp [hy])⟩, HB.out⟩

set_option maxRecDepth 20000 in
set_option maxHeartbeats 4000000 in
theorem unmask7 (q g n rs : Nat) (ws : List Nat) (B : Nat → Nat → Bool) (w : World) (h : IsMat w q g 99 30 n n rs ws B) (hn : n ≤ 60) (hrs : rs ≤ 32) :
    Calls Try.prog 43 #[.agg #[.func (.func 65) #[] #[]], .pointer (some ⟨q, 0, none⟩), .int .i64 n] w (OffOut q g n rs 7 B w) := by
  have hql := h.lt
  have hgq := h.gq
  have HM := hid (h.below ((Below.refl _ _).alloc (Nat.le_refl _) (.cells #[.func (.func 65) #[] #[]] 76)) hql)
  have HF := hid (Arr.of_new w 76 #[.func (.func 65) #[] #[]])
  have HB := hid (show Below g w (w.alloc (.cells #[.func (.func 65) #[] #[]] 76)) from (Below.refl _ _).alloc (by omega) _)
  clear h
  go_enter Try.func43, Try.ntmps43
  go_wp2_with fail
  generalize w.alloc (.cells #[.func (.func 65) #[] #[]] 76) = w1 at *
  go_loopw [6] (fun iv wr => ∃ (i : Nat) (ws : List Nat), i ≤ n ∧ iv = .int .i64 (i : Nat) ∧ IsMat wr q g 99 30 n n rs ws (offTo B 7 n i 0) ∧ Arr wr w.heap.size 76 [.func (.func 65) #[] #[]] ∧ Below g w wr) (fun iv _ => n - (intOf iv).toNat)
  case atStart => exact ⟨0, ws, by omega, rfl, HM.out.congr (fun x y _ _ => by unfold offTo; rw [if_neg]; rintro ⟨_, hh | hh, _⟩ <;> omega), HF.out, HB.out⟩
  case round =>
    clear HM HF HB
    obtain ⟨i, ws2, hi, rfl, hM, hF, hB⟩ := hrel
    have HM := hid hM
    have HF := hid hF
    have HB := hid hB
    clear hM hF hB
    by_cases hlt : i < n
    · have hlt' : (i : Int) < (n : Int) := by omega
      go_wp2_with fail
      go_loopw [7] (fun jv wr => ∃ (j : Nat) (ws : List Nat), j ≤ n ∧ jv = .int .i64 (j : Nat) ∧ IsMat wr q g 99 30 n n rs ws (offTo B 7 n i j) ∧ Arr wr w.heap.size 76 [.func (.func 65) #[] #[]] ∧ Below g w wr) (fun jv _ => n - (intOf jv).toNat)
      case atStart => exact ⟨0, ws2, by omega, rfl, HM.out, HF.out, HB.out⟩
      case round =>
        clear HM HF HB
        obtain ⟨j, ws3, hj, rfl, hM, hF, hB⟩ := hrel
        have c0 : wr.cell? ⟨w.heap.size, 0, none⟩ = some (.func (.func 65) #[] #[]) := hF.cell? 0
        have HM := hid hM
        have HF := hid hF
        have HB := hid hB
        clear hM hF hB
        by_cases hj1 : j < n
        · have hj1' : (j : Int) < (n : Int) := by omega
          have mk := mask7 j i wr (by omega) (by omega)
          have hjr : j < 32 * rs := Nat.lt_of_lt_of_le hj1 HM.out.wr
          have fb := flipBit q g n n rs j i ws3 _ wr HM.out hjr hlt (by omega) hrs
          have HSH := hid (HM.out.sh.flip hjr hlt)
          have HST := hid (fun b hb x y => off_step B 7 n i j hj1 b hb x y)
          have HAT := hid (off_at B 7 n i j)
          cases hb : mBit 7 j i with
          | true =>
            rw [hb] at mk
            have HBV := hid hb
            clear hb
            go_wp2_with fail
            refine mk.mono ?_
            rintro e w5 ⟨rfl, rfl⟩
            clear mk
            go_wp2_with fail
            refine fb.mono ?_
            rintro e w6 ⟨rfl, rfl⟩
            clear fb
            go_wp2_with fail
            go_roundw
            case rel =>
              refine ⟨j + 1, _, by omega, by go_num, (HM.out.put HSH.out).congr (fun x y _ _ => ?_), HF.out.far (by simp; omega) _, HB.out.setCell (by simp) _⟩
              rw [HST.out true HBV.out]
              unfold put2
              rw [HAT.out]
              rfl
            case measure => simp [intOf]; omega
          | false =>
            rw [hb] at mk
            have HBV := hid hb
            clear hb fb
            go_wp2_with fail
            refine mk.mono ?_
            rintro e w5 ⟨rfl, rfl⟩
            clear mk
            go_wp2_with fail
            go_roundw
            case rel =>
              refine ⟨j + 1, ws3, by omega, by go_num, HM.out.congr (fun x y _ _ => ?_), HF.out, HB.out⟩
              rw [HST.out false HBV.out]
              by_cases h1 : x = j ∧ y = i
              · rw [if_pos h1, h1.1, h1.2, HAT.out]
                rfl
              · rw [if_neg h1]
            case measure => simp [intOf]; omega
        · obtain rfl : j = n := by omega
          have hj1' : ¬ (j : Int) < (j : Int) := by omega
          go_wp2_with fail
          go_roundw
          case rel => exact ⟨i + 1, ws3, by omega, by go_num, HM.out.congr (fun x y _ hy => (off_row B 7 j i x y hy).symm), HF.out, HB.out⟩
          case measure => simp [intOf]; omega
    · obtain rfl : i = n := by omega
      have hlt' : ¬ (i : Int) < (i : Int) := by omega
      go_wp2_with fail
      go_end0
      exact ⟨rfl, ⟨ws2, HM.out.congr (fun x y _ hy => by unfold offTo offAll; simp [hy])⟩, HB.out⟩

end Go.Proofs.Ytjgckbccbambmaa
