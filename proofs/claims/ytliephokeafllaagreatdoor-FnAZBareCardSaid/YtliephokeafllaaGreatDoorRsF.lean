/- The fields and polynomials of the package (turned from the seat of Reed-Solomon). -/
import Derived.Test.YtliephokeafllaaGreatDoorRsE
namespace Go.Proofs.YtliephokeafllaaGreatDoor.Rs
section
open Go.RowKit
set_option linter.unusedVariables false
/-- Block q is a polynomial over the field at F whose coefficients are l; it and its row lie from block B on. -/
def IsPoly (w : World) (B q : Nat) (F : Value) (l : List Nat) : Prop := B ≤ q ∧ ∃ A n c, (∀ a, A = some a → B ≤ a.block) ∧ n ≤ c ∧ Arr w q 176 [F, .slice A n c] ∧ Rd w A n (ints l)
section
variable {w w' : World} {B q : Nat} {F : Value} {l : List Nat}
theorem IsPoly.far (h : IsPoly w B q F l) {p : Addr} (hp : p.block < B) (v : Value) : IsPoly (w.setCell p v) B q F l := by
  obtain ⟨hq, A, n, c, hA, hnc, hr, hR⟩ := h
  exact ⟨hq, A, n, c, hA, hnc, hr.far (by omega) v, Rd.far hR hA hp v⟩
theorem IsPoly.alloc (h : IsPoly w B q F l) (o : Obj) : IsPoly (w.alloc o) B q F l := by
  obtain ⟨hq, A, n, c, hA, hnc, hr, hR⟩ := h
  exact ⟨hq, A, n, c, hA, hnc, hr.alloc o, hR.alloc o⟩
theorem IsPoly.below (h : IsPoly w B q F l) (hb : Below w.heap.size w w') : IsPoly w' B q F l := by
  obtain ⟨hq, A, n, c, hA, hnc, hr, hR⟩ := h
  exact ⟨hq, A, n, c, hA, hnc, hr.below hb hr.lt, hR.below hb⟩
theorem IsPoly.mono (h : IsPoly w B q F l) {B' : Nat} (hB : B' ≤ B) : IsPoly w B' q F l := by
  obtain ⟨hq, A, n, c, hA, hnc, hr, hR⟩ := h
  exact ⟨by omega, A, n, c, fun a e => Nat.le_trans hB (hA a e), hnc, hr, hR⟩
theorem IsPoly.drewN (h : IsPoly w B q F l) (k : Nat) : IsPoly (w.drewN k) B q F l := h
theorem IsPoly.lt (h : IsPoly w B q F l) : q < w.heap.size := by
  obtain ⟨_, _, _, _, _, _, hr, _⟩ := h
  exact hr.lt
end
/-- A new polynomial is handed back, and no error. -/
def PolyOut (B : Nat) (F : Value) (l : List Nat) (w : World) (e : Ending) (w' : World) : Prop :=
  ∃ q, e = .returned (.tuple #[.pointer (some ⟨q, 0, none⟩), .nilIface]) ∧ w.heap.size ≤ q ∧ IsPoly w' B q F l ∧ Below w.heap.size w w'
set_option maxHeartbeats 1000000 in
theorem newPoly (F : Option Addr) (A : Option Addr) (n c : Nat) (l : List Nat) (B : Nat) (w : World) (hR : Rd w A n (ints l)) (hn : 1 ≤ n) (hn2 : n ≤ 1000000) (hc : n ≤ c) (hAB : ∀ a, A = some a → B ≤ a.block) (hBw : B ≤ w.heap.size) :
    Calls Tryz.prog 87 #[.pointer F, .slice A n c] w (PolyOut B (.pointer F) (tidy l) w) := by
  have hl : l.length = n := by have := hR.1; simpa [ints] using this
  have hn0 : ((n : Int) == 0) = false := by simp; omega
  obtain ⟨b, o, rfl, hb, hc0⟩ := rd_int hR 0 (by omega)
  have HAB := hid (show B ≤ b from hAB _ rfl)
  clear hAB
  rw [Nat.add_zero] at hc0
  by_cases h1 : n = 1
  · subst h1
    have HT := hid (tidy_first (l := l) (.inr hl) (by omega))
    clear hl
    go_enter Tryz.func87, Tryz.ntmps87
    go_wp2
    go_ret2
    exact ⟨_, rfl, Nat.le_refl _, ⟨hBw, _, _, _, (fun a e => by cases e; exact HAB.out), hc, Arr.of_new w 176 _, by rw [HT.out]; exact hR.alloc _⟩, (Below.refl _ _).alloc (Nat.le_refl _) _⟩
  · have hn1 : (1 : Int) < n := by omega
    by_cases hz : l.getD 0 0 = 0
    · rw [hz] at hc0
      simp only [Int.natCast_zero] at hc0
      have HZ := hid hz
      have HL := hid hl
      clear hz hl
      go_enter Tryz.func87, Tryz.ntmps87
      go_wp2
      go_loop [8] (fun i => ∃ k : Nat, 1 ≤ k ∧ k ≤ n ∧ i = .int .i64 k ∧ Hid (∀ j, j < k → l.getD j 0 = 0)) (fun i => n - (intOf i).toNat)
      case atStart => exact ⟨1, by omega, by omega, rfl, hid (fun j hj => by rw [show j = 0 from by omega]; exact HZ.out)⟩
      case round =>
        obtain ⟨k, hk1, hk, rfl, hzs⟩ := hrel
        by_cases hlt : k < n
        · have hlt' : (k : Int) < (n : Int) := by omega
          obtain ⟨b', o', he, _, hck⟩ := rd_int hR k hlt
          cases he
          by_cases hz : l.getD k 0 = 0
          · rw [hz] at hck
            simp only [Int.natCast_zero] at hck
            have HZ' := hid hz
            clear hz
            go_wp2
            go_round
            case rel =>
              refine ⟨k + 1, by omega, by omega, by go_num, hid (fun j hj => ?_)⟩
              rcases Nat.lt_or_ge j k with h2 | h2
              · exact hzs.out j h2
              · rw [show j = k from by omega]; exact HZ'.out
            case measure => simp [intOf]; omega
          · have HT := hid (show tidy l = l.drop k by rw [tidy_drop l k (by rw [HL.out]; exact hlt) hzs.out, tidy_first (.inl (by rw [getD_drop0]; exact hz)) (by rw [List.length_drop, HL.out]; omega)])
            have hz' : (((l.getD k 0 : Nat) : Int) == 0) = false := by rw [beq_eq_false_iff_ne]; omega
            have hkn : ((k : Int) == (n : Int)) = false := by rw [beq_eq_false_iff_ne]; omega
            generalize l.getD k 0 = lk at *
            go_wp2
            go_ret2
            refine ⟨_, rfl, Nat.le_refl _, ⟨hBw, _, _, _, (fun a e => by cases e; exact HAB.out), by omega, Arr.of_new w 176 _, ?_⟩, (Below.refl _ _).alloc (Nat.le_refl _) _⟩
            rw [HT.out]
            have h := (Rd.drop hR k hk).alloc (.cells #[.pointer F, .slice (some ⟨b, o + k, none⟩) (n - k) (c - k)] 176)
            rw [ints, List.map_drop]
            exact h
        · obtain rfl : k = n := by omega
          have hlt' : ¬ (k : Int) < (k : Int) := by omega
          have HT := hid (tidy_zeros l (by rw [HL.out]; omega) (by rw [HL.out]; exact hzs.out))
          go_wp2
          go_ret2
          refine ⟨_, rfl, Nat.le_refl _, ⟨hBw, _, _, _, (fun a e => by cases e; show B ≤ w.heap.size + 1; omega), Nat.le_refl _, (Arr.of_new w 176 _).alloc _, ?_⟩, ((Below.refl _ _).alloc (Nat.le_refl _) _).alloc (by simp) _⟩
          rw [HT.out]
          have h := Rd.of_arr (Arr.of_new (w.alloc (.cells #[.pointer F, .slice (some ⟨w.heap.size + 1, 0, none⟩) 1 1] 176)) 3 #[.int .i64 0])
          simpa [ints] using h
    · have HT := hid (tidy_first (l := l) (.inl hz) (by omega))
      have hz' : (((l.getD 0 0 : Nat) : Int) == 0) = false := by rw [beq_eq_false_iff_ne]; omega
      generalize l.getD 0 0 = l0 at *
      clear hl
      go_enter Tryz.func87, Tryz.ntmps87
      go_wp2
      go_ret2
      exact ⟨_, rfl, Nat.le_refl _, ⟨hBw, _, _, _, (fun a e => by cases e; exact HAB.out), hc, Arr.of_new w 176 _, by rw [HT.out]; exact hR.alloc _⟩, (Below.refl _ _).alloc (Nat.le_refl _) _⟩
end

section
open Go.RowKit
set_option linter.unusedVariables false
section
variable {p m : Nat}
end
/-- Block g is a field with its tables. -/
def IsField (w : World) (g p m base : Nat) : Prop :=
  ∃ ge gl qz qo, Arr w g 174 [.slice (some ⟨ge, 0, none⟩) (2 ^ m) (2 ^ m), .slice (some ⟨gl, 0, none⟩) (2 ^ m) (2 ^ m), .pointer (some ⟨qz, 0, none⟩), .pointer (some ⟨qo, 0, none⟩), .int .i64 (2 ^ m : Nat), .int .i64 p, .int .i64 base] ∧
    Arr w ge 3 (ints (expTo p m (2 ^ m))) ∧ Arr w gl 3 (ints (logTo p m (2 ^ m - 1))) ∧ IsPoly w (g + 1) qz (fieldPtr g) [0] ∧ IsPoly w (g + 1) qo (fieldPtr g) [1]
/-- A new field is handed back. -/
def FieldOut (p m base : Nat) (w : World) (e : Ending) (w' : World) : Prop :=
  ∃ g, e = .returned (fieldPtr g) ∧ w.heap.size ≤ g ∧ IsField w' g p m base ∧ Below w.heap.size w w'
set_option maxHeartbeats 1000000 in
theorem newField (p m N base : Nat) (w : World) (h : IsGF p m) (hN : Hid (N = 2 ^ m)) (hb : base ≤ 1) :
    Calls Tryz.prog 84 #[.int .i64 p, .int .i64 N, .int .i64 base] w (FieldOut p m base w) := by
  have hN1 : N ≤ 4096 := by rw [hN.out]; exact Nat.pow_le_pow_right (n := 2) (by omega) h.small
  have hN0 : 4 ≤ N := by rw [hN.out]; exact Nat.pow_le_pow_right (n := 2) (by omega) h.pos
  have hp : p < 8192 := Nat.lt_of_lt_of_le h.high (show 2 ^ (m + 1) ≤ 2 ^ 13 from Nat.pow_le_pow_right (by omega) (by have := h.small; omega))
  have H := hid h
  clear h
  obtain ⟨i0, hi, hz0, hz1, hz2⟩ := info_parts info3
  have hmk := fun W => run_make (P := Tryz.prog) W 25 3 i0 (.int .i64 0) Tryz.underlying25 hi hz0 .i64 .i64 N N (by omega) (by omega) (by rw [hz2]; omega) (by omega)
  simp only [hz1] at hmk
  clear hz0 hz1 hz2 hi
  go_enter Tryz.func84, Tryz.ntmps84
  go_wp2
  obtain ⟨w1, hw1, hA, hE, hL, hB⟩ : ∃ w1, w1 = ((w.alloc (.cells #[.slice none 0 0, .slice none 0 0, .pointer none, .pointer none, .int .i64 N, .int .i64 p, .int .i64 base] 174)).alloc (.cells (madeCells #[.int .i64 0] N) 3)).alloc (.cells (madeCells #[.int .i64 0] N) 3) ∧
      Arr w1 w.heap.size 174 [.slice none 0 0, .slice none 0 0, .pointer none, .pointer none, .int .i64 N, .int .i64 p, .int .i64 base] ∧ Arr w1 (w.heap.size + 1) 3 (ints (expTo p m 0)) ∧ Arr w1 (w.heap.size + 1 + 1) 3 (ints (logTo p m 0)) ∧ Below w.heap.size w w1 := by
    have e0 : List.replicate N (Value.int .i64 0) = ints (List.replicate (2 ^ m) 0) := by rw [hN.out]; simp [ints]
    refine ⟨_, rfl, ((Arr.of_new w 174 _).alloc _).alloc _, ?_, ?_, (((Below.refl _ _).alloc (Nat.le_refl _) _).alloc (by simp) _).alloc (by simp; omega) _⟩
    · have := (Arr.made (w.alloc (.cells #[.slice none 0 0, .slice none 0 0, .pointer none, .pointer none, .int .i64 N, .int .i64 p, .int .i64 base] 174)) 3 (.int .i64 0) N).alloc (.cells (madeCells #[.int .i64 0] N) 3)
      rw [e0] at this
      rw [expTo_zero]
      simpa using this
    · have := Arr.made ((w.alloc (.cells #[.slice none 0 0, .slice none 0 0, .pointer none, .pointer none, .int .i64 N, .int .i64 p, .int .i64 base] 174)).alloc (.cells (madeCells #[.int .i64 0] N) 3)) 3 (.int .i64 0) N
      rw [e0] at this
      simpa [logTo] using this
  rw [← hw1]
  clear hw1 hmk
  go_loopw [10, 11] (fun x i wr => ∃ k : Nat, k ≤ N ∧ i = .int .i64 k ∧ x = .int .i64 (ex p m k : Nat) ∧ Arr wr w.heap.size 174 [.slice none 0 0, .slice none 0 0, .pointer none, .pointer none, .int .i64 N, .int .i64 p, .int .i64 base] ∧ Arr wr (w.heap.size + 1) 3 (ints (expTo p m k)) ∧ Arr wr (w.heap.size + 1 + 1) 3 (ints (logTo p m 0)) ∧ Below w.heap.size w wr) (fun _ i _ => N - (intOf i).toNat)
  case atStart => exact ⟨0, by omega, rfl, rfl, hA, hE, hL, hB⟩
  case round =>
    obtain ⟨k, hk, rfl, rfl, hA, hE, hL, hB⟩ := hrel
    by_cases hlt : k < N
    · have hlt' : (k : Int) < (N : Int) := by omega
      have hx := ex_lt H.out k
      rw [← hN.out] at hx
      have HX := hid (show ex p m (k + 1) = mx p m (ex p m k) from rfl)
      have HE := hid (show mx p m (ex p m k) = if N ≤ 2 * ex p m k then (2 * ex p m k) ^^^ p else 2 * ex p m k by rw [hN.out]; rfl)
      have hml := mx_lt H.out (by rw [← hN.out]; exact hx)
      rw [← hN.out] at hml
      have HS := hid (expTo_step (p := p) (m := m) k)
      generalize ex p m k = x at *
      obtain ⟨v, hc⟩ := hE.has k (by rw [ints_length, expTo_length, ← hN.out]; exact hlt)
      have hf := hE.frozen k
      have hand : ∀ y : Nat, y < N → bits .and .i64 (y : Int) ((N : Int) - 1) = (y : Int) := by
        intro y hy
        have := i64_and y (N - 1) (by omega) (by omega)
        rw [hN.out, Nat.and_two_pow_sub_one_eq_mod, Nat.mod_eq_of_lt (by rw [← hN.out]; exact hy), ← hN.out] at this
        rw [← this]
        congr 1
        omega
      have HA := hid hA
      have HEE := hid hE
      have HLL := hid hL
      clear hA hE hL
      by_cases hge : N ≤ 2 * x
      · have hge' : (N : Int) ≤ (x : Int) * 2 := by omega
        have hxor : bits .xor .i64 ((x : Int) * 2) (p : Int) = ((2 * x ^^^ p : Nat) : Int) := by
          have := i64_xor (2 * x) p (by omega) (by omega)
          rw [← this]
          congr 1
          omega
        have HM := HE.out
        rw [if_pos hge] at HM
        rw [HM] at hml
        have hand' := hand _ hml
        have HM' := hid HM
        clear HM hand
        generalize 2 * x ^^^ p = y at *
        go_wp2
        go_roundw
        case rel =>
          have h1 := HEE.out.set k (.int .i64 (x : Nat))
          rw [ints, ← List.map_set, HS.out] at h1
          exact ⟨k + 1, by omega, by go_num, by rw [HX.out, HM'.out], HA.out.far (by simp) _, h1, HLL.out.far (by simp) _, hB.setCell (by simp) _⟩
        case measure => simp [intOf]; omega
      · have hge' : ¬ (N : Int) ≤ (x : Int) * 2 := by omega
        have HM := HE.out
        rw [if_neg hge] at HM
        have HM' := hid HM
        clear HM hand
        go_wp2
        go_roundw
        case rel =>
          have h1 := HEE.out.set k (.int .i64 (x : Nat))
          rw [ints, ← List.map_set, HS.out] at h1
          exact ⟨k + 1, by omega, by go_num, by rw [HX.out, HM'.out]; go_num, HA.out.far (by simp) _, h1, HLL.out.far (by simp) _, hB.setCell (by simp) _⟩
        case measure => simp [intOf]; omega
    · obtain rfl : N = k := by omega
      rw [hN.out] at hE
      obtain ⟨w0, rfl⟩ : ∃ w0 : World, w0 = wr := ⟨_, rfl⟩
      go_wp2
      go_loopw [12] (fun i wr => ∃ k : Nat, k ≤ N - 1 ∧ i = .int .i64 k ∧ Arr wr w.heap.size 174 [.slice none 0 0, .slice none 0 0, .pointer none, .pointer none, .int .i64 N, .int .i64 p, .int .i64 base] ∧ Arr wr (w.heap.size + 1) 3 (ints (expTo p m (2 ^ m))) ∧ Arr wr (w.heap.size + 1 + 1) 3 (ints (logTo p m k)) ∧ Below w.heap.size w wr) (fun i _ => N - 1 - (intOf i).toNat)
      case atStart => exact ⟨0, by omega, rfl, hA, hE, hL, hB⟩
      case round =>
        obtain ⟨k, hk, rfl, hA, hE, hL, hB⟩ := hrel
        by_cases hlt : k < N - 1
        · have hlt' : (k : Int) < (N : Int) - 1 := by omega
          have hx := ex_lt H.out k
          rw [← hN.out] at hx
          have hc : wr.cell? ⟨w.heap.size + 1, k, none⟩ = some (.int .i64 (ex p m k : Nat)) := by
            have hl := ints_length (expTo p m (2 ^ m))
            rw [expTo_length] at hl
            rw [hE.cell k (by rw [hl, ← hN.out]; omega)]
            have := expTo_getD (p := p) (m := m) (2 ^ m) k (by rw [← hN.out]; omega) (by rw [← hN.out]; omega)
            rw [List.getD, List.getElem?_eq_getElem (by rw [expTo_length, ← hN.out]; omega)] at this
            simp only [Option.getD_some] at this
            simp [ints, this]
          have HS := hid (show (logTo p m k).set (ex p m k) k = logTo p m (k + 1) from rfl)
          generalize ex p m k = x at *
          obtain ⟨v, hc2⟩ := hL.has x (by rw [ints_length, logTo_length, ← hN.out]; exact hx)
          have hf := hL.frozen x
          have HA := hid hA
          have HEE := hid hE
          have HLL := hid hL
          clear hA hE hL
          go_wp2
          go_roundw
          case rel =>
            have h1 := HLL.out.set x (.int .i64 (k : Nat))
            rw [ints, ← List.map_set, HS.out] at h1
            exact ⟨k + 1, by omega, by go_num, HA.out.far (by simp; omega) _, HEE.out.far (by simp) _, h1, hB.setCell (by simp; omega) _⟩
          case measure => simp [intOf]; omega
        · obtain rfl : k = N - 1 := by omega
          have hlt' : ¬ ((N - 1 : Nat) : Int) < (N : Int) - 1 := by omega
          obtain ⟨w0, rfl⟩ : ∃ w0 : World, w0 = wr := ⟨_, rfl⟩
          rw [hN.out] at hL
          have c0 := hA.cell? 0
          have c1 := hA.cell? 1
          have c2 := hA.cell? 2
          have c3 := hA.cell? 3
          have hf := fun k => hA.frozen k
          go_wp2_with fail
          have E1 := ((hE.far (p := ⟨w.heap.size, 0, none⟩) (by simp) (.slice (some ⟨w.heap.size + 1, 0, none⟩) N N)).far (p := ⟨w.heap.size, 1, none⟩) (by simp) (.slice (some ⟨w.heap.size + 1 + 1, 0, none⟩) N N)).alloc (.cells #[.int .i64 0] 3)
          have L1 := ((hL.far (p := ⟨w.heap.size, 0, none⟩) (by simp; omega) (.slice (some ⟨w.heap.size + 1, 0, none⟩) N N)).far (p := ⟨w.heap.size, 1, none⟩) (by simp; omega) (.slice (some ⟨w.heap.size + 1 + 1, 0, none⟩) N N)).alloc (.cells #[.int .i64 0] 3)
          have A1 := ((hA.set 0 (.slice (some ⟨w.heap.size + 1, 0, none⟩) N N)).set 1 (.slice (some ⟨w.heap.size + 1 + 1, 0, none⟩) N N)).alloc (.cells #[.int .i64 0] 3)
          have Z1 := Arr.of_new ((w0.setCell ⟨w.heap.size, 0, none⟩ (.slice (some ⟨w.heap.size + 1, 0, none⟩) N N)).setCell ⟨w.heap.size, 1, none⟩ (.slice (some ⟨w.heap.size + 1 + 1, 0, none⟩) N N)) 3 #[.int .i64 0]
          have B1 := ((hB.setCell (p := ⟨w.heap.size, 0, none⟩) (Nat.le_refl _) (.slice (some ⟨w.heap.size + 1, 0, none⟩) N N)).setCell (p := ⟨w.heap.size, 1, none⟩) (Nat.le_refl _) (.slice (some ⟨w.heap.size + 1 + 1, 0, none⟩) N N)).alloc (by simp; exact hB.size) (.cells #[.int .i64 0] 3)
          simp only [World.size_setCell] at Z1
          generalize ((w0.setCell ⟨w.heap.size, 0, none⟩ (.slice (some ⟨w.heap.size + 1, 0, none⟩) N N)).setCell ⟨w.heap.size, 1, none⟩ (.slice (some ⟨w.heap.size + 1 + 1, 0, none⟩) N N)).alloc (.cells #[.int .i64 0] 3) = w2 at *
          have hg0 : w.heap.size + 1 ≤ w0.heap.size := by have := hE.lt; omega
          generalize w0.heap.size = g0 at *
          clear hA hE hL hB c0 c1 c2 c3 hf
          have R1 : Rd w2 (some ⟨g0, 0, none⟩) 1 (ints [0]) := Rd.of_arr Z1
          have hw2 : w.heap.size + 1 ≤ w2.heap.size := by have := E1.lt; omega
          refine (newPoly _ _ 1 1 [0] (w.heap.size + 1) w2 R1 (by omega) (by omega) (by omega) (fun a e => by cases e; exact hg0) hw2).mono ?_
          rintro e w3 ⟨qz, rfl, hqz, hPz, B2⟩
          change IsPoly w3 (w.heap.size + 1) qz (fieldPtr w.heap.size) [0] at hPz
          have A2 := A1.below B2 A1.lt
          have E2 := E1.below B2 E1.lt
          have L2 := L1.below B2 L1.lt
          have B3 := B1.trans (B2.mono B1.size)
          have hgq : w.heap.size < qz := Nat.lt_of_lt_of_le A1.lt hqz
          clear A1 E1 L1 B1 B2 Z1 R1
          have c0 := A2.cell? 2
          have hf := fun k => A2.frozen k
          simp only [List.set_cons_zero, List.set_cons_succ] at A2 c0
          go_wp2_with fail
          have A3 := (A2.set 2 (.pointer (some ⟨qz, 0, none⟩))).alloc (.cells #[.int .i64 1] 3)
          have E3 := (E2.far (p := ⟨w.heap.size, 2, none⟩) (by simp) (.pointer (some ⟨qz, 0, none⟩))).alloc (.cells #[.int .i64 1] 3)
          have L3 := (L2.far (p := ⟨w.heap.size, 2, none⟩) (by simp; omega) (.pointer (some ⟨qz, 0, none⟩))).alloc (.cells #[.int .i64 1] 3)
          have P3 := (hPz.far (p := ⟨w.heap.size, 2, none⟩) (by simp) (.pointer (some ⟨qz, 0, none⟩))).alloc (.cells #[.int .i64 1] 3)
          have Z3 := Arr.of_new (w3.setCell ⟨w.heap.size, 2, none⟩ (.pointer (some ⟨qz, 0, none⟩))) 3 #[.int .i64 1]
          have B4 := (B3.setCell (p := ⟨w.heap.size, 2, none⟩) (Nat.le_refl _) (.pointer (some ⟨qz, 0, none⟩))).alloc (by simp; exact B3.size) (.cells #[.int .i64 1] 3)
          simp only [World.size_setCell] at Z3
          generalize (w3.setCell ⟨w.heap.size, 2, none⟩ (.pointer (some ⟨qz, 0, none⟩))).alloc (.cells #[.int .i64 1] 3) = w4 at *
          have hg1 : w.heap.size + 1 ≤ w3.heap.size := by have := E2.lt; omega
          generalize w3.heap.size = g1 at *
          clear A2 E2 L2 B3 hPz c0 hf
          have R3 : Rd w4 (some ⟨g1, 0, none⟩) 1 (ints [1]) := Rd.of_arr Z3
          have hw4 : w.heap.size + 1 ≤ w4.heap.size := by have := E3.lt; omega
          refine (newPoly _ _ 1 1 [1] (w.heap.size + 1) w4 R3 (by omega) (by omega) (by omega) (fun a e => by cases e; exact hg1) hw4).mono ?_
          rintro e w5 ⟨qo, rfl, hqo, hPo, B5⟩
          change IsPoly w5 (w.heap.size + 1) qo (fieldPtr w.heap.size) [1] at hPo
          have A5 := A3.below B5 A3.lt
          have E5 := E3.below B5 E3.lt
          have L5 := L3.below B5 L3.lt
          have P5 := P3.below B5
          have B6 := B4.trans (B5.mono B4.size)
          clear A3 E3 L3 P3 B4 B5 Z3 R3
          simp only [List.set_cons_zero, List.set_cons_succ] at A5
          have c0 := A5.cell? 3
          have hf := fun k => A5.frozen k
          go_wp2_with fail
          have A7 := A5.set 3 (.pointer (some ⟨qo, 0, none⟩))
          simp only [List.set_cons_zero, List.set_cons_succ] at A7
          rw [hN.out] at A7
          go_ret
          refine ⟨w.heap.size, rfl, Nat.le_refl _, ⟨_, _, qz, qo, A7, ?_, ?_, ?_, ?_⟩, B6.setCell (Nat.le_refl _) _⟩
          · exact E5.far (by simp) _
          · exact L5.far (by simp; omega) _
          · exact P5.far (by simp) _
          · exact hPo.far (by simp) _
end

section
open Go.RowKit
set_option linter.unusedVariables false
/-- The tables of a field, ready to be read: of elements a, b that are not 0. -/
theorem IsField.tables {w : World} {g p m base : Nat} (hF : IsField w g p m base) (h : IsGF p m) {a b : Nat} (ha : a < 2 ^ m) (hb : b < 2 ^ m) (ha0 : 0 < a) (hb0 : 0 < b) :
    ∃ ge gl i j N : Nat, w.cell? ⟨g, 0, none⟩ = some (.slice (some ⟨ge, 0, none⟩) N N) ∧ w.cell? ⟨g, 1, none⟩ = some (.slice (some ⟨gl, 0, none⟩) N N) ∧ w.cell? ⟨g, 4, none⟩ = some (.int .i64 N) ∧
      w.cell? ⟨gl, a, none⟩ = some (.int .i64 i) ∧ w.cell? ⟨gl, b, none⟩ = some (.int .i64 j) ∧ w.cell? ⟨ge, (i + j) % (N - 1), none⟩ = some (.int .i64 (gm p m a b : Nat)) ∧
      i < N - 1 ∧ j < N - 1 ∧ N ≤ 4096 ∧ 4 ≤ N ∧ a < N ∧ b < N := by
  obtain ⟨ge, gl, qz, qo, hA, hE, hL, _, _⟩ := hF
  obtain ⟨i, hi, hia⟩ := ex_surj h ha0 ha
  obtain ⟨j, hj, hjb⟩ := ex_surj h hb0 hb
  have hN1 : 2 ^ m ≤ 4096 := Nat.pow_le_pow_right (n := 2) (by omega) h.small
  have hN0 : 4 ≤ 2 ^ m := Nat.pow_le_pow_right (n := 2) (by omega) h.pos
  have log : ∀ a i, a < 2 ^ m → i < 2 ^ m - 1 → ex p m i = a → w.cell? ⟨gl, a, none⟩ = some (.int .i64 (i : Nat)) := by
    intro a i ha hi he
    have e1 := logTo_ex h (2 ^ m - 1) (Nat.le_refl _) i hi
    rw [he, List.getD, List.getElem?_eq_getElem (by rw [logTo_length]; exact ha)] at e1
    simp only [Option.getD_some] at e1
    rw [hL.cell a (by rw [ints_length, logTo_length]; exact ha)]
    simp [ints, e1]
  refine ⟨ge, gl, i, j, 2 ^ m, hA.cell? 0, hA.cell? 1, hA.cell? 4, log a i ha hi hia, log b j hb hj hjb, ?_, hi, hj, hN1, hN0, ha, hb⟩
  have hlt : (i + j) % (2 ^ m - 1) < 2 ^ m - 1 := Nat.mod_lt _ (by omega)
  have e2 := expTo_getD (p := p) (m := m) (2 ^ m) ((i + j) % (2 ^ m - 1)) (by omega) (by omega)
  rw [List.getD, List.getElem?_eq_getElem (by rw [expTo_length]; omega)] at e2
  simp only [Option.getD_some] at e2
  rw [hE.cell _ (by rw [ints_length, expTo_length]; omega)]
  rw [← hia, ← hjb, gm_exex h, ← ex_mod h (i + j)]
  simp [ints, e2]
set_option maxHeartbeats 1000000 in
theorem multiply (g p m base a b : Nat) (w : World) (h : IsGF p m) (hF : IsField w g p m base) (ha : a < 2 ^ m) (hb : b < 2 ^ m) :
    Calls Tryz.prog 107 #[fieldPtr g, .int .i64 a, .int .i64 b] w (DrewOut (.int .i64 (gm p m a b : Nat)) w) := by
  rcases Nat.eq_zero_or_pos a with h0 | h0
  · subst h0
    rw [zero_gm]
    go_enter Tryz.func107, Tryz.ntmps107
    go_wp2
    go_ret
    exact ⟨rfl, 0, rfl⟩
  rcases Nat.eq_zero_or_pos b with h1 | h1
  · subst h1
    rw [gm_zero]
    have ha' : ((a : Int) == 0) = false := by rw [beq_eq_false_iff_ne]; omega
    go_enter Tryz.func107, Tryz.ntmps107
    go_wp2
    go_ret
    exact ⟨rfl, 0, rfl⟩
  obtain ⟨ge, gl, i, j, N, c0, c1, c4, ca, cb, cc, hi, hj, hN1, hN0, haN, hbN⟩ := hF.tables h ha hb h0 h1
  have ha' : ((a : Int) == 0) = false := by rw [beq_eq_false_iff_ne]; omega
  have hb' : ((b : Int) == 0) = false := by rw [beq_eq_false_iff_ne]; omega
  generalize gm p m a b = r at *
  have e1 : ((i : Int) + (j : Int)) % ((N : Int) - 1) = (((i + j) % (N - 1) : Nat) : Int) := by
    rw [show (N : Int) - 1 = ((N - 1 : Nat) : Int) from by omega, show (i : Int) + (j : Int) = ((i + j : Nat) : Int) from by omega]
    exact (Int.natCast_emod _ _).symm
  have hlt : (i + j) % (N - 1) < N := Nat.lt_of_lt_of_le (Nat.mod_lt _ (by omega)) (by omega)
  generalize (i + j) % (N - 1) = k at *
  have haN' : (a : Int) < (N : Int) := by omega
  have hbN' : (b : Int) < (N : Int) := by omega
  have hkN' : (k : Int) < (N : Int) := by omega
  clear h hF ha hb
  unfold fieldPtr
  go_enter Tryz.func107, Tryz.ntmps107
  go_wp2
  go_quiet (fail)
  go_wp2
  go_ret
  exact ⟨rfl, _, rfl⟩
end

section
open Go.RowKit
set_option linter.unusedVariables false
section
variable {p m : Nat}
end
theorem IsField.expCell {w : World} {g p m base : Nat} (hF : IsField w g p m base) {k : Nat} (hk : k < 2 ^ m) :
    ∃ ge N : Nat, w.cell? ⟨g, 0, none⟩ = some (.slice (some ⟨ge, 0, none⟩) N N) ∧ w.cell? ⟨ge, k, none⟩ = some (.int .i64 (ex p m k : Nat)) ∧ k < N := by
  obtain ⟨ge, gl, qz, qo, hA, hE, hL, _, _⟩ := hF
  refine ⟨ge, 2 ^ m, hA.cell? 0, ?_, hk⟩
  have e2 := expTo_getD (p := p) (m := m) (2 ^ m) k hk hk
  rw [List.getD, List.getElem?_eq_getElem (by rw [expTo_length]; omega)] at e2
  simp only [Option.getD_some] at e2
  rw [hE.cell _ (by rw [ints_length, expTo_length]; omega)]
  simp [ints, e2]
theorem expAt (g p m base k : Nat) (w : World) (hF : IsField w g p m base) (hk : k < 2 ^ m) (hk2 : k < 5000) :
    Calls Tryz.prog 90 #[fieldPtr g, .int .i64 k] w (SameOut (.int .i64 (ex p m k : Nat)) w) := by
  obtain ⟨ge, N, c0, c1, hkN⟩ := hF.expCell hk
  have hkN' : (k : Int) < (N : Int) := by omega
  generalize ex p m k = y at *
  unfold fieldPtr
  clear hk hF
  go_enter Tryz.func90, Tryz.ntmps90
  go_wp2
  go_ret
  exact ⟨rfl, rfl⟩
theorem baseOf (g p m base : Nat) (w : World) (hF : IsField w g p m base) :
    Calls Tryz.prog 91 #[fieldPtr g] w (SameOut (.int .i64 base) w) := by
  obtain ⟨ge, gl, qz, qo, hA, hE, hL, _, _⟩ := hF
  have c6 : w.cell? ⟨g, 6, none⟩ = some (.int .i64 base) := hA.cell? 6
  unfold fieldPtr
  clear hA hE hL
  go_enter Tryz.func91, Tryz.ntmps91
  go_wp2
  go_ret
  exact ⟨rfl, rfl⟩
theorem exp_sum (w : World) (g p m base k : Nat) (hF : IsField w g p m base) (hk : k < 4000) (hb : base ≤ 1) (hkm : k + base < 2 ^ m) :
    Calls Tryz.prog 90 #[fieldPtr g, .int .i64 ((k : Int) + (base : Int))] w (SameOut (.int .i64 (ex p m (k + base) : Nat)) w) := by
  have := expAt g p m base (k + base) w hF hkm (by omega)
  rwa [show ((k + base : Nat) : Int) = (k : Int) + (base : Int) from by omega] at this
end

section
open Go.RowKit
set_option linter.unusedVariables false
/-- A coefficient of a polynomial in memory. -/
theorem IsPoly.coef {w : World} {B q : Nat} {F : Value} {l : List Nat} (h : IsPoly w B q F l) (h1 : 1 ≤ l.length) :
    ∃ b o c, w.cell? ⟨q, 0, none⟩ = some F ∧ w.cell? ⟨q, 1, none⟩ = some (.slice (some ⟨b, o, none⟩) l.length c) ∧ ∀ k, k < l.length → w.cell? ⟨b, o + k, none⟩ = some (.int .i64 (l.getD k 0 : Nat)) := by
  obtain ⟨_, A, n, c, _, _, hq, hR⟩ := h
  have hl : l.length = n := by have := hR.1; simpa [ints] using this
  subst hl
  obtain ⟨b, o, rfl, _, _⟩ := rd_int hR 0 (by omega)
  refine ⟨b, o, c, hq.cell? 0, hq.cell? 1, fun k hk => ?_⟩
  obtain ⟨b', o', he, _, hc⟩ := rd_int hR k hk
  cases he
  exact hc
set_option maxHeartbeats 1000000 in
theorem getCoefficient (q d : Nat) (B : Nat) (F : Value) (l : List Nat) (w : World) (hP : IsPoly w B q F l) (hd : d < l.length) (hl : l.length ≤ 1000000) :
    Calls Tryz.prog 106 #[fieldPtr q, .int .i64 d] w (DrewOut (.int .i64 (l.getD (l.length - 1 - d) 0 : Nat)) w) := by
  obtain ⟨b, o, c, c0, c1, hc⟩ := hP.coef (by omega)
  have ck := hc (l.length - 1 - d) (by omega)
  generalize l.getD (l.length - 1 - d) 0 = x at *
  have e1 : (l.length : Int) - 1 - d = ((l.length - 1 - d : Nat) : Int) := by omega
  have h1 : (0 : Int) ≤ (l.length : Int) - 1 - d := by omega
  have h2 : (l.length : Int) - 1 - d < (l.length : Int) := by omega
  generalize l.length = n at *
  clear hP hc
  unfold fieldPtr
  have h3 : ((n : Int) - 1 - d).toNat = n - 1 - d := by omega
  clear e1
  go_enter Tryz.func106, Tryz.ntmps106
  go_wp2
  go_quiet (fail)
  go_wp2
  go_ret
  exact ⟨rfl, _, rfl⟩
theorem addOr (x y : Nat) (hx : x < 65536) (hy : y < 65536) (w : World) :
    Calls Tryz.prog 98 #[.int .i64 x, .int .i64 y] w fun e w' => e = .returned (.int .i64 (x ^^^ y : Nat)) ∧ w = w' := by
  have hb : bits .xor .i64 (x : Int) (y : Int) = ((x ^^^ y : Nat) : Int) := i64_xor x y (by omega) (by omega)
  go_enter Tryz.func98, Tryz.ntmps98
  go_wp2
  go_ret
  exact ⟨rfl, rfl⟩
set_option maxHeartbeats 2000000 in
theorem evaluateAt (q g p m base B x : Nat) (l : List Nat) (w : World) (h : IsGF p m) (hF : IsField w g p m base) (hP : IsPoly w B q (fieldPtr g) l) (hl1 : 1 ≤ l.length) (hl : l.length ≤ 1000000) (hx : x < 2 ^ m) (hA : AllIn m l) :
    Calls Tryz.prog 89 #[fieldPtr q, .int .i64 x] w (DrewOut (.int .i64 (valAt p m x l : Nat)) w) := by
  have hN1 : 2 ^ m ≤ 4096 := Nat.pow_le_pow_right (n := 2) (by omega) h.small
  obtain ⟨b, o, c, c0, c1, hc⟩ := hP.coef hl1
  rcases (by omega : x = 0 ∨ x = 1 ∨ 2 ≤ x) with rfl | rfl | h2
  · rw [val_zero p m l hl1]
    unfold fieldPtr
    show Calls Tryz.prog 89 #[.pointer (some ⟨q, 0, none⟩), .int .i64 0] _ _
    go_enter Tryz.func89, Tryz.ntmps89
    go_wp2_with fail
    have gc := getCoefficient q 0 B (fieldPtr g) l w hP (by omega) hl
    rw [Nat.sub_zero] at gc
    refine gc.mono ?_
    rintro e w1 ⟨rfl, nq, rfl⟩
    go_wp2_with fail
    go_ret
    exact ⟨rfl, _, rfl⟩
  · unfold fieldPtr
    show Calls Tryz.prog 89 #[.pointer (some ⟨q, 0, none⟩), .int .i64 1] _ _
    go_enter Tryz.func89, Tryz.ntmps89
    go_wp2_with fail
    go_loop [5, 7, 22] (fun r _ i => ∃ k : Nat, k ≤ l.length ∧ i = .int .i64 k ∧ r = .int .i64 (hornTo p m 1 l k : Nat)) (fun _ _ i => l.length - (intOf i).toNat)
    case atStart => exact ⟨0, by omega, rfl, rfl⟩
    case round =>
      obtain ⟨k, hk, rfl, rfl⟩ := hrel
      by_cases hlt : k < l.length
      · have hlt' : (k : Int) < (l.length : Int) := by omega
        have ck := hc k hlt
        have h1 := hornTo_lt h hA (one_lt h) k
        have h2 := getD_lt h hA k
        have HS := hid (horn_one h hA k)
        have ao := fun W => addOr (hornTo p m 1 l k) (l.getD k 0) (by omega) (by omega) W
        generalize hornTo p m 1 l k = r at *
        generalize l.getD k 0 = y at *
        clear hc h1 h2
        go_wp2_with (go_at_call 98; ((with_reducible refine (ao _).mono ?_); rintro e w' ⟨rfl, rfl⟩))
        go_round
        case rel => exact ⟨k + 1, by omega, by go_num, by rw [HS.out]⟩
        case measure => simp [intOf]; omega
      · obtain rfl : k = l.length := by omega
        have hlt' : ¬ (l.length : Int) < (l.length : Int) := by omega
        clear hc
        go_wp2
        go_ret
        exact ⟨rfl, 0, rfl⟩
  · have hx0 : ((x : Int) == 0) = false := by rw [beq_eq_false_iff_ne]; omega
    have hx1 : ((x : Int) == 1) = false := by rw [beq_eq_false_iff_ne]; omega
    have ck0 := hc 0 (by omega)
    rw [Nat.add_zero] at ck0
    have hlen0 : (0 : Int) < (l.length : Int) := by omega
    have HF1 := hid (horn_first p m x l)
    generalize l.getD 0 0 = y0 at ck0 HF1
    unfold fieldPtr
    go_enter Tryz.func89, Tryz.ntmps89
    go_wp2_with fail
    rw [← HF1.out]
    go_loopw [8, 10] (fun r i wr => ∃ k : Nat, 1 ≤ k ∧ k ≤ l.length ∧ i = .int .i64 k ∧ r = .int .i64 (hornTo p m x l k : Nat) ∧ ∃ nq, wr = w.drewN nq) (fun _ i _ => l.length - (intOf i).toNat)
    case atStart => exact ⟨1, by omega, hl1, rfl, rfl, 0, rfl⟩
    case round =>
      obtain ⟨k, hk1, hk, rfl, rfl, nq, rfl⟩ := hrel
      by_cases hlt : k < l.length
      · have hlt' : (k : Int) < (l.length : Int) := by omega
        have hk0 : (0 : Int) ≤ (k : Int) := by omega
        have ck := hc k hlt
        have h1 := hornTo_lt h hA hx k
        have h3 := gm_lt h hx (hornTo p m x l k)
        have h4 := getD_lt h hA k
        have HS := hid (show hornTo p m x l (k + 1) = gm p m x (hornTo p m x l k) ^^^ l.getD k 0 from rfl)
        have c0' : (w.drewN nq).cell? ⟨q, 0, none⟩ = some (fieldPtr g) := c0
        have c1' : (w.drewN nq).cell? ⟨q, 1, none⟩ = some (.slice (some ⟨b, o, none⟩) l.length c) := c1
        have ck' : (w.drewN nq).cell? ⟨b, o + k, none⟩ = some (.int .i64 (l.getD k 0 : Nat)) := ck
        have hF' : IsField (w.drewN nq) g p m base := hF
        obtain ⟨W, hW⟩ : ∃ W, W = w.drewN nq := ⟨_, rfl⟩
        rw [← hW] at c0' c1' ck' hF' ⊢
        have HW := hid hW
        have mu := fun n => multiply g p m base x (hornTo p m x l k) (W.drewN n) h hF' hx h1
        have ao := fun W => addOr (gm p m x (hornTo p m x l k)) (l.getD k 0) (by omega) (by omega) W
        generalize gm p m x (hornTo p m x l k) = s at *
        generalize hornTo p m x l k = r at *
        generalize l.getD k 0 = y at *
        clear hc h1 h3 h4 ck0 hW ck c0 c1 hF hF'
        unfold fieldPtr at *
        go_wp2_with fail
        go_quiet ((first | (go_at_call 107; exact (mu _).mono fun _ _ hh => ⟨hh.1, by obtain ⟨n2, hn2⟩ := hh.2; exact ⟨_, hn2.trans (World.drewN_drewN _ _ _)⟩⟩) | (go_at_call 98; exact (ao _).mono fun _ _ hh => ⟨hh.1, _, hh.2.symm⟩)))
        go_wp2
        go_roundw
        case rel => exact ⟨k + 1, by omega, by omega, by go_num, by rw [HS.out], _, by rw [HW.out, World.drewN_drewN]⟩
        case measure => simp [intOf]; omega
      · obtain rfl : k = l.length := by omega
        have hlt' : ¬ (l.length : Int) < (l.length : Int) := by omega
        clear hc ck0
        go_wp2
        go_ret
        exact ⟨rfl, _, rfl⟩
end
end Go.Proofs.YtliephokeafllaaGreatDoor.Rs
