/- The walk that makes a field, once more: where its table of logarithms lies. -/
import Derived.Test.YtpkmknbmjlnkgaaMagW
namespace Go.Proofs.Ytpkmknbmjlnkgaa
open Go.RowKit
set_option linter.unusedVariables false

/-- The table of logarithms of the field at g lies from block B on. -/
def IsLog (w : World) (B g p m : Nat) : Prop :=
  B ≤ g ∧ ∃ gl, B ≤ gl ∧ w.cell? ⟨g, 1, none⟩ = some (.slice (some ⟨gl, 0, none⟩) (2 ^ m : Nat) (2 ^ m : Nat)) ∧ Arr w gl 3 (ints (logTo p m (2 ^ m - 1))) ∧ g < w.heap.size
theorem IsLog.below {w w' : World} {B g p m : Nat} (h : IsLog w B g p m) (hb : Below w.heap.size w w') : IsLog w' B g p m := by
  obtain ⟨h1, gl, h2, h3, h4, h5⟩ := h
  exact ⟨h1, gl, h2, (hb.cell (p := ⟨g, 1, none⟩) h5).trans h3, h4.below hb h4.lt, Nat.lt_of_lt_of_le h5 hb.size⟩
theorem IsLog.far {w : World} {B g p m : Nat} (h : IsLog w B g p m) {a : Addr} (ha : a.block < B) (v : Value) : IsLog (w.setCell a v) B g p m := by
  obtain ⟨h1, gl, h2, h3, h4, h5⟩ := h
  refine ⟨h1, gl, h2, ?_, h4.far (by omega) v, by simpa using h5⟩
  rw [World.cell?_of_block (w := w) (a := ⟨g, 1, none⟩) (Below.heap_setCell w a v g (by omega))]
  exact h3
theorem IsLog.drewN {w : World} {B g p m : Nat} (h : IsLog w B g p m) (k : Nat) : IsLog (w.drewN k) B g p m := h
theorem logAtL (g p m B a : Nat) (w : World) (hF : IsLog w B g p m) (h0 : 0 < a) (hk : a < 2 ^ m) (hk2 : a < 5000) :
    Calls Try.prog 65 #[fieldPtr g, .int .i64 a] w (SameOut (.tuple #[.int .i64 (lg p m a : Nat), .nilIface]) w) := by
  obtain ⟨_, gl, _, c0, hL, _⟩ := hF
  have c1 : w.cell? ⟨gl, a, none⟩ = some (.int .i64 (lg p m a : Nat)) := by
    rw [hL.cell _ (by rw [ints_length, logTo_length]; omega)]
    simp [ints, lg, List.getD, List.getElem?_eq_getElem (show a < (logTo p m (2 ^ m - 1)).length by rw [logTo_length]; omega)]
  have hkN' : (a : Int) < ((2 ^ m : Nat) : Int) := by omega
  have ha' : ((a : Int) == 0) = false := by rw [beq_eq_false_iff_ne]; omega
  generalize lg p m a = y at *
  generalize 2 ^ m = N at *
  unfold fieldPtr
  clear hk hL
  go_enter Try.func65, Try.ntmps65
  go_wp2
  go_ret2
  exact ⟨rfl, rfl⟩

/-- A new field is handed back, its table of logarithms new. -/
def FieldOutB (p m base : Nat) (w : World) (e : Ending) (w' : World) : Prop :=
  ∃ g, e = .returned (fieldPtr g) ∧ w.heap.size ≤ g ∧ IsField w' g p m base ∧ IsLog w' w.heap.size g p m ∧ Below w.heap.size w w'

set_option maxHeartbeats 1000000 in
theorem newFieldB (p m N base : Nat) (w : World) (h : IsGF p m) (hN : Hid (N = 2 ^ m)) (hb : base ≤ 1) :
    Calls Try.prog 47 #[.int .i64 p, .int .i64 N, .int .i64 base] w (FieldOutB p m base w) := by
  have hN1 : N ≤ 4096 := by rw [hN.out]; exact Nat.pow_le_pow_right (n := 2) (by omega) h.small
  have hN0 : 4 ≤ N := by rw [hN.out]; exact Nat.pow_le_pow_right (n := 2) (by omega) h.pos
  have hp : p < 8192 := Nat.lt_of_lt_of_le h.high (show 2 ^ (m + 1) ≤ 2 ^ 13 from Nat.pow_le_pow_right (by omega) (by have := h.small; omega))
  have H := hid h
  clear h
  obtain ⟨i0, hi, hz0, hz1, hz2⟩ := info_parts info3
  have hmk := fun W => run_make (P := Try.prog) W 30 3 i0 (.int .i64 0) Try.underlying30 hi hz0 .i64 .i64 N N (by omega) (by omega) (by rw [hz2]; omega) (by omega)
  simp only [hz1] at hmk
  clear hz0 hz1 hz2 hi
  go_enter Try.func47, Try.ntmps47
  go_wp2
  obtain ⟨w1, hw1, hA, hE, hL, hB⟩ : ∃ w1, w1 = ((w.alloc (.cells #[.slice none 0 0, .slice none 0 0, .pointer none, .pointer none, .int .i64 N, .int .i64 p, .int .i64 base] 78)).alloc (.cells (madeCells #[.int .i64 0] N) 3)).alloc (.cells (madeCells #[.int .i64 0] N) 3) ∧
      Arr w1 w.heap.size 78 [.slice none 0 0, .slice none 0 0, .pointer none, .pointer none, .int .i64 N, .int .i64 p, .int .i64 base] ∧ Arr w1 (w.heap.size + 1) 3 (ints (expTo p m 0)) ∧ Arr w1 (w.heap.size + 1 + 1) 3 (ints (logTo p m 0)) ∧ Below w.heap.size w w1 := by
    have e0 : List.replicate N (Value.int .i64 0) = ints (List.replicate (2 ^ m) 0) := by rw [hN.out]; simp [ints]
    refine ⟨_, rfl, ((Arr.of_new w 78 _).alloc _).alloc _, ?_, ?_, (((Below.refl _ _).alloc (Nat.le_refl _) _).alloc (by simp) _).alloc (by simp; omega) _⟩
    · have := (Arr.made (w.alloc (.cells #[.slice none 0 0, .slice none 0 0, .pointer none, .pointer none, .int .i64 N, .int .i64 p, .int .i64 base] 78)) 3 (.int .i64 0) N).alloc (.cells (madeCells #[.int .i64 0] N) 3)
      rw [e0] at this
      rw [expTo_zero]
      simpa using this
    · have := Arr.made ((w.alloc (.cells #[.slice none 0 0, .slice none 0 0, .pointer none, .pointer none, .int .i64 N, .int .i64 p, .int .i64 base] 78)).alloc (.cells (madeCells #[.int .i64 0] N) 3)) 3 (.int .i64 0) N
      rw [e0] at this
      simpa [logTo] using this
  rw [← hw1]
  clear hw1 hmk
  go_loopw [10, 11] (fun x i wr => ∃ k : Nat, k ≤ N ∧ i = .int .i64 k ∧ x = .int .i64 (ex p m k : Nat) ∧ Arr wr w.heap.size 78 [.slice none 0 0, .slice none 0 0, .pointer none, .pointer none, .int .i64 N, .int .i64 p, .int .i64 base] ∧ Arr wr (w.heap.size + 1) 3 (ints (expTo p m k)) ∧ Arr wr (w.heap.size + 1 + 1) 3 (ints (logTo p m 0)) ∧ Below w.heap.size w wr) (fun _ i _ => N - (intOf i).toNat)
  case atStart => exact ⟨0, by omega, rfl, rfl, hA, hE, hL, hB⟩
  case round =>
    obtain ⟨k, hk, rfl, rfl, hA, hE, hL, hB⟩ := hrel
    by_cases hlt : k < N
    · have hlt' : (k : Int) < (N : Int) := by omega
      have hx := ex_lt H.out k
      rw [← hN.out] at hx
      have HX := hid (show ex p m (k + 1) = mx p m (ex p m k) from rfl)
      have HE := hid (show mx p m (ex p m k) = if N ≤ 2 * ex p m k then (2 * ex p m k) ^^^ p else 2 * ex p m k by rw [hN.out]; rfl)
      have hml := mx_lt H.out (by rw [← hN.out]; exact hx)
      rw [← hN.out] at hml
      have HS := hid (expTo_step (p := p) (m := m) k)
      generalize ex p m k = x at *
      obtain ⟨v, hc⟩ := hE.has k (by rw [ints_length, expTo_length, ← hN.out]; exact hlt)
      have hf := hE.frozen k
      have hand : ∀ y : Nat, y < N → bits .and .i64 (y : Int) ((N : Int) - 1) = (y : Int) := by
        intro y hy
        have := i64_and y (N - 1) (by omega) (by omega)
        rw [hN.out, Nat.and_two_pow_sub_one_eq_mod, Nat.mod_eq_of_lt (by rw [← hN.out]; exact hy), ← hN.out] at this
        rw [← this]
        congr 1
        omega
      have HA := hid hA
      have HEE := hid hE
      have HLL := hid hL
      clear hA hE hL
      by_cases hge : N ≤ 2 * x
      · have hge' : (N : Int) ≤ (x : Int) * 2 := by omega
        have hxor : bits .xor .i64 ((x : Int) * 2) (p : Int) = ((2 * x ^^^ p : Nat) : Int) := by
          have := i64_xor (2 * x) p (by omega) (by omega)
          rw [← this]
          congr 1
          omega
        have HM := HE.out
        rw [if_pos hge] at HM
        rw [HM] at hml
        have hand' := hand _ hml
        have HM' := hid HM
        clear HM hand
        generalize 2 * x ^^^ p = y at *
        go_wp2
        go_roundw
        case rel =>
          have h1 := HEE.out.set k (.int .i64 (x : Nat))
          rw [ints, ← List.map_set, HS.out] at h1
          exact ⟨k + 1, by omega, by go_num, by rw [HX.out, HM'.out], HA.out.far (by simp) _, h1, HLL.out.far (by simp) _, hB.setCell (by simp) _⟩
        case measure => simp [intOf]; omega
      · have hge' : ¬ (N : Int) ≤ (x : Int) * 2 := by omega
        have HM := HE.out
        rw [if_neg hge] at HM
        have HM' := hid HM
        clear HM hand
        go_wp2
        go_roundw
        case rel =>
          have h1 := HEE.out.set k (.int .i64 (x : Nat))
          rw [ints, ← List.map_set, HS.out] at h1
          exact ⟨k + 1, by omega, by go_num, by rw [HX.out, HM'.out]; go_num, HA.out.far (by simp) _, h1, HLL.out.far (by simp) _, hB.setCell (by simp) _⟩
        case measure => simp [intOf]; omega
    · obtain rfl : N = k := by omega
      rw [hN.out] at hE
      obtain ⟨w0, rfl⟩ : ∃ w0 : World, w0 = wr := ⟨_, rfl⟩
      go_wp2
      go_loopw [12] (fun i wr => ∃ k : Nat, k ≤ N - 1 ∧ i = .int .i64 k ∧ Arr wr w.heap.size 78 [.slice none 0 0, .slice none 0 0, .pointer none, .pointer none, .int .i64 N, .int .i64 p, .int .i64 base] ∧ Arr wr (w.heap.size + 1) 3 (ints (expTo p m (2 ^ m))) ∧ Arr wr (w.heap.size + 1 + 1) 3 (ints (logTo p m k)) ∧ Below w.heap.size w wr) (fun i _ => N - 1 - (intOf i).toNat)
      case atStart => exact ⟨0, by omega, rfl, hA, hE, hL, hB⟩
      case round =>
        obtain ⟨k, hk, rfl, hA, hE, hL, hB⟩ := hrel
        by_cases hlt : k < N - 1
        · have hlt' : (k : Int) < (N : Int) - 1 := by omega
          have hx := ex_lt H.out k
          rw [← hN.out] at hx
          have hc : wr.cell? ⟨w.heap.size + 1, k, none⟩ = some (.int .i64 (ex p m k : Nat)) := by
            have hl := ints_length (expTo p m (2 ^ m))
            rw [expTo_length] at hl
            rw [hE.cell k (by rw [hl, ← hN.out]; omega)]
            have := expTo_getD (p := p) (m := m) (2 ^ m) k (by rw [← hN.out]; omega) (by rw [← hN.out]; omega)
            rw [List.getD, List.getElem?_eq_getElem (by rw [expTo_length, ← hN.out]; omega)] at this
            simp only [Option.getD_some] at this
            simp [ints, this]
          have HS := hid (show (logTo p m k).set (ex p m k) k = logTo p m (k + 1) from rfl)
          generalize ex p m k = x at *
          obtain ⟨v, hc2⟩ := hL.has x (by rw [ints_length, logTo_length, ← hN.out]; exact hx)
          have hf := hL.frozen x
          have HA := hid hA
          have HEE := hid hE
          have HLL := hid hL
          clear hA hE hL
          go_wp2
          go_roundw
          case rel =>
            have h1 := HLL.out.set x (.int .i64 (k : Nat))
            rw [ints, ← List.map_set, HS.out] at h1
            exact ⟨k + 1, by omega, by go_num, HA.out.far (by simp; omega) _, HEE.out.far (by simp) _, h1, hB.setCell (by simp; omega) _⟩
          case measure => simp [intOf]; omega
        · obtain rfl : k = N - 1 := by omega
          have hlt' : ¬ ((N - 1 : Nat) : Int) < (N : Int) - 1 := by omega
          obtain ⟨w0, rfl⟩ : ∃ w0 : World, w0 = wr := ⟨_, rfl⟩
          rw [hN.out] at hL
          have c0 := hA.cell? 0
          have c1 := hA.cell? 1
          have c2 := hA.cell? 2
          have c3 := hA.cell? 3
          have hf := fun k => hA.frozen k
          go_wp2_with fail
          have E1 := ((hE.far (p := ⟨w.heap.size, 0, none⟩) (by simp) (.slice (some ⟨w.heap.size + 1, 0, none⟩) N N)).far (p := ⟨w.heap.size, 1, none⟩) (by simp) (.slice (some ⟨w.heap.size + 1 + 1, 0, none⟩) N N)).alloc (.cells #[.int .i64 0] 3)
          have L1 := ((hL.far (p := ⟨w.heap.size, 0, none⟩) (by simp; omega) (.slice (some ⟨w.heap.size + 1, 0, none⟩) N N)).far (p := ⟨w.heap.size, 1, none⟩) (by simp; omega) (.slice (some ⟨w.heap.size + 1 + 1, 0, none⟩) N N)).alloc (.cells #[.int .i64 0] 3)
          have A1 := ((hA.set 0 (.slice (some ⟨w.heap.size + 1, 0, none⟩) N N)).set 1 (.slice (some ⟨w.heap.size + 1 + 1, 0, none⟩) N N)).alloc (.cells #[.int .i64 0] 3)
          have Z1 := Arr.of_new ((w0.setCell ⟨w.heap.size, 0, none⟩ (.slice (some ⟨w.heap.size + 1, 0, none⟩) N N)).setCell ⟨w.heap.size, 1, none⟩ (.slice (some ⟨w.heap.size + 1 + 1, 0, none⟩) N N)) 3 #[.int .i64 0]
          have B1 := ((hB.setCell (p := ⟨w.heap.size, 0, none⟩) (Nat.le_refl _) (.slice (some ⟨w.heap.size + 1, 0, none⟩) N N)).setCell (p := ⟨w.heap.size, 1, none⟩) (Nat.le_refl _) (.slice (some ⟨w.heap.size + 1 + 1, 0, none⟩) N N)).alloc (by simp; exact hB.size) (.cells #[.int .i64 0] 3)
          simp only [World.size_setCell] at Z1
          generalize ((w0.setCell ⟨w.heap.size, 0, none⟩ (.slice (some ⟨w.heap.size + 1, 0, none⟩) N N)).setCell ⟨w.heap.size, 1, none⟩ (.slice (some ⟨w.heap.size + 1 + 1, 0, none⟩) N N)).alloc (.cells #[.int .i64 0] 3) = w2 at *
          have hg0 : w.heap.size + 1 ≤ w0.heap.size := by have := hE.lt; omega
          generalize w0.heap.size = g0 at *
          clear hA hE hL hB c0 c1 c2 c3 hf
          have R1 : Rd w2 (some ⟨g0, 0, none⟩) 1 (ints [0]) := Rd.of_arr Z1
          have hw2 : w.heap.size + 1 ≤ w2.heap.size := by have := E1.lt; omega
          refine (newPoly _ _ 1 1 [0] (w.heap.size + 1) w2 R1 (by omega) (by omega) (by omega) (fun a e => by cases e; exact hg0) hw2).mono ?_
          rintro e w3 ⟨qz, rfl, hqz, hPz, B2⟩
          change IsPoly w3 (w.heap.size + 1) qz (fieldPtr w.heap.size) [0] at hPz
          have A2 := A1.below B2 A1.lt
          have E2 := E1.below B2 E1.lt
          have L2 := L1.below B2 L1.lt
          have B3 := B1.trans (B2.mono B1.size)
          have hgq : w.heap.size < qz := Nat.lt_of_lt_of_le A1.lt hqz
          clear A1 E1 L1 B1 B2 Z1 R1
          have c0 := A2.cell? 2
          have hf := fun k => A2.frozen k
          simp only [List.set_cons_zero, List.set_cons_succ] at A2 c0
          go_wp2_with fail
          have A3 := (A2.set 2 (.pointer (some ⟨qz, 0, none⟩))).alloc (.cells #[.int .i64 1] 3)
          have E3 := (E2.far (p := ⟨w.heap.size, 2, none⟩) (by simp) (.pointer (some ⟨qz, 0, none⟩))).alloc (.cells #[.int .i64 1] 3)
          have L3 := (L2.far (p := ⟨w.heap.size, 2, none⟩) (by simp; omega) (.pointer (some ⟨qz, 0, none⟩))).alloc (.cells #[.int .i64 1] 3)
          have P3 := (hPz.far (p := ⟨w.heap.size, 2, none⟩) (by simp) (.pointer (some ⟨qz, 0, none⟩))).alloc (.cells #[.int .i64 1] 3)
          have Z3 := Arr.of_new (w3.setCell ⟨w.heap.size, 2, none⟩ (.pointer (some ⟨qz, 0, none⟩))) 3 #[.int .i64 1]
          have B4 := (B3.setCell (p := ⟨w.heap.size, 2, none⟩) (Nat.le_refl _) (.pointer (some ⟨qz, 0, none⟩))).alloc (by simp; exact B3.size) (.cells #[.int .i64 1] 3)
          simp only [World.size_setCell] at Z3
          generalize (w3.setCell ⟨w.heap.size, 2, none⟩ (.pointer (some ⟨qz, 0, none⟩))).alloc (.cells #[.int .i64 1] 3) = w4 at *
          have hg1 : w.heap.size + 1 ≤ w3.heap.size := by have := E2.lt; omega
          generalize w3.heap.size = g1 at *
          clear A2 E2 L2 B3 hPz c0 hf
          have R3 : Rd w4 (some ⟨g1, 0, none⟩) 1 (ints [1]) := Rd.of_arr Z3
          have hw4 : w.heap.size + 1 ≤ w4.heap.size := by have := E3.lt; omega
          refine (newPoly _ _ 1 1 [1] (w.heap.size + 1) w4 R3 (by omega) (by omega) (by omega) (fun a e => by cases e; exact hg1) hw4).mono ?_
          rintro e w5 ⟨qo, rfl, hqo, hPo, B5⟩
          change IsPoly w5 (w.heap.size + 1) qo (fieldPtr w.heap.size) [1] at hPo
          have A5 := A3.below B5 A3.lt
          have E5 := E3.below B5 E3.lt
          have L5 := L3.below B5 L3.lt
          have P5 := P3.below B5
          have B6 := B4.trans (B5.mono B4.size)
          clear A3 E3 L3 P3 B4 B5 Z3 R3
          simp only [List.set_cons_zero, List.set_cons_succ] at A5
          have c0 := A5.cell? 3
          have hf := fun k => A5.frozen k
          go_wp2_with fail
          have A7 := A5.set 3 (.pointer (some ⟨qo, 0, none⟩))
          simp only [List.set_cons_zero, List.set_cons_succ] at A7
          rw [hN.out] at A7
          go_ret
          refine ⟨w.heap.size, rfl, Nat.le_refl _, ⟨_, _, qz, qo, A7, ?_, ?_, ?_, ?_⟩, ⟨Nat.le_refl _, w.heap.size + 1 + 1, by omega, A7.cell? 1, ?_, A7.lt⟩, B6.setCell (Nat.le_refl _) _⟩
          · exact E5.far (by simp) _
          · exact L5.far (by simp; omega) _
          · exact P5.far (by simp) _
          · exact hPo.far (by simp) _
          · exact L5.far (by simp; omega) _

set_option maxHeartbeats 400000 in
theorem implFieldB (p m N base : Nat) (w : World) (h : IsGF p m) (hN : Hid (N = 2 ^ m)) (hb : base ≤ 1) :
    Calls Try.prog 30 #[fieldVal p N base] w (FieldOutB p m base w) := by
  unfold fieldVal
  go_enter Try.func30, Try.ntmps30
  go_wp2_with fail
  refine (newFieldB p m N base _ h hN hb).mono ?_
  rintro e w1 ⟨g, rfl, hg, hF, hL, hB⟩
  unfold fieldPtr
  go_wp2_with fail
  go_ret
  have e0 : w.heap.size ≤ (w.alloc (.cells #[.int .i64 p, .int .i64 N, .int .i64 base] 23)).heap.size := by simp
  obtain ⟨h1, gl, h2, h3, h4, h5⟩ := hL
  exact ⟨g, rfl, Nat.le_trans e0 hg, hF, ⟨Nat.le_trans e0 h1, gl, Nat.le_trans e0 h2, h3, h4, h5⟩, ((Below.refl _ _).alloc (Nat.le_refl _) _).trans (hB.mono e0)⟩
end Go.Proofs.Ytpkmknbmjlnkgaa
