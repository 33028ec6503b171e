/- The field's and the polynomials' small methods: powers, logarithms, inverses, degree, zero. -/
import Derived.Test.YtpkmknbmjlnkgaaScalE
namespace Go.Proofs.Ytpkmknbmjlnkgaa
open Go.RowKit
set_option linter.unusedVariables false

/-- The logarithm of an element, as the table has it. -/
def lg (p m a : Nat) : Nat := (logTo p m (2 ^ m - 1)).getD a 0
/-- The inverse of an element. -/
def inv (p m a : Nat) : Nat := ex p m (2 ^ m - 1 - lg p m a)

section
variable {p m : Nat}
theorem lg_ex (h : IsGF p m) {i : Nat} (hi : i < 2 ^ m - 1) : lg p m (ex p m i) = i := logTo_ex h (2 ^ m - 1) (Nat.le_refl _) i hi
theorem lg_lt (h : IsGF p m) {a : Nat} (h0 : 0 < a) (ha : a < 2 ^ m) : lg p m a < 2 ^ m - 1 := by
  obtain ⟨i, hi, rfl⟩ := ex_surj h h0 ha
  rw [lg_ex h hi]; exact hi
theorem ex_lg (h : IsGF p m) {a : Nat} (h0 : 0 < a) (ha : a < 2 ^ m) : ex p m (lg p m a) = a := by
  obtain ⟨i, hi, rfl⟩ := ex_surj h h0 ha
  rw [lg_ex h hi]
theorem inv_lt (h : IsGF p m) (a : Nat) : inv p m a < 2 ^ m := ex_lt h _
theorem inv_pos (h : IsGF p m) (a : Nat) : 0 < inv p m a := ex_pos h _
theorem gm_inv (h : IsGF p m) {a : Nat} (h0 : 0 < a) (ha : a < 2 ^ m) : gm p m a (inv p m a) = 1 := by
  have hl := lg_lt h h0 ha
  conv => lhs; lhs; rw [← ex_lg h h0 ha]
  rw [inv, gm_exex h, show lg p m a + (2 ^ m - 1 - lg p m a) = 2 ^ m - 1 from by omega, ex_round h]
end

theorem IsField.expCell {w : World} {g p m base : Nat} (hF : IsField w g p m base) {k : Nat} (hk : k < 2 ^ m) :
    ∃ ge N : Nat, w.cell? ⟨g, 0, none⟩ = some (.slice (some ⟨ge, 0, none⟩) N N) ∧ w.cell? ⟨ge, k, none⟩ = some (.int .i64 (ex p m k : Nat)) ∧ k < N := by
  obtain ⟨ge, gl, qz, qo, hA, hE, hL, _, _⟩ := hF
  refine ⟨ge, 2 ^ m, hA.cell? 0, ?_, hk⟩
  have e2 := expTo_getD (p := p) (m := m) (2 ^ m) k hk hk
  rw [List.getD, List.getElem?_eq_getElem (by rw [expTo_length]; omega)] at e2
  simp only [Option.getD_some] at e2
  rw [hE.cell _ (by rw [ints_length, expTo_length]; omega)]
  simp [ints, e2]
theorem IsField.logCell {w : World} {g p m base : Nat} (hF : IsField w g p m base) {a : Nat} (hk : a < 2 ^ m) :
    ∃ gl N : Nat, w.cell? ⟨g, 1, none⟩ = some (.slice (some ⟨gl, 0, none⟩) N N) ∧ w.cell? ⟨gl, a, none⟩ = some (.int .i64 (lg p m a : Nat)) ∧ a < N := by
  obtain ⟨ge, gl, qz, qo, hA, hE, hL, _, _⟩ := hF
  refine ⟨gl, 2 ^ m, hA.cell? 1, ?_, hk⟩
  rw [hL.cell _ (by rw [ints_length, logTo_length]; omega)]
  simp [ints, lg, List.getD, List.getElem?_eq_getElem (show a < (logTo p m (2 ^ m - 1)).length by rw [logTo_length]; omega)]

/-- A value is handed back, the world is as it was. -/
def SameOut (v : Value) (w : World) (e : Ending) (w' : World) : Prop := e = .returned v ∧ w = w'

theorem expAt (g p m base k : Nat) (w : World) (hF : IsField w g p m base) (hk : k < 2 ^ m) (hk2 : k < 5000) :
    Calls Try.prog 60 #[fieldPtr g, .int .i64 k] w (SameOut (.int .i64 (ex p m k : Nat)) w) := by
  obtain ⟨ge, N, c0, c1, hkN⟩ := hF.expCell hk
  have hkN' : (k : Int) < (N : Int) := by omega
  generalize ex p m k = y at *
  unfold fieldPtr
  clear hk hF
  go_enter Try.func60, Try.ntmps60
  go_wp2
  go_ret
  exact ⟨rfl, rfl⟩

theorem logAt (g p m base a : Nat) (w : World) (hF : IsField w g p m base) (h0 : 0 < a) (hk : a < 2 ^ m) (hk2 : a < 5000) :
    Calls Try.prog 65 #[fieldPtr g, .int .i64 a] w (SameOut (.tuple #[.int .i64 (lg p m a : Nat), .nilIface]) w) := by
  obtain ⟨ge, N, c0, c1, hkN⟩ := hF.logCell hk
  have hkN' : (a : Int) < (N : Int) := by omega
  have ha' : ((a : Int) == 0) = false := by rw [beq_eq_false_iff_ne]; omega
  generalize lg p m a = y at *
  unfold fieldPtr
  clear hk hF
  go_enter Try.func65, Try.ntmps65
  go_wp2
  go_ret2
  exact ⟨rfl, rfl⟩

theorem baseOf (g p m base : Nat) (w : World) (hF : IsField w g p m base) :
    Calls Try.prog 61 #[fieldPtr g] w (SameOut (.int .i64 base) w) := by
  obtain ⟨ge, gl, qz, qo, hA, hE, hL, _, _⟩ := hF
  have c6 : w.cell? ⟨g, 6, none⟩ = some (.int .i64 base) := hA.cell? 6
  unfold fieldPtr
  clear hA hE hL
  go_enter Try.func61, Try.ntmps61
  go_wp2
  go_ret
  exact ⟨rfl, rfl⟩
theorem sizeOf_ (g p m base : Nat) (w : World) (hF : IsField w g p m base) :
    Calls Try.prog 73 #[fieldPtr g] w (SameOut (.int .i64 (2 ^ m : Nat)) w) := by
  obtain ⟨ge, gl, qz, qo, hA, hE, hL, _, _⟩ := hF
  have c6 : w.cell? ⟨g, 4, none⟩ = some (.int .i64 (2 ^ m : Nat)) := hA.cell? 4
  generalize 2 ^ m = N at *
  unfold fieldPtr
  clear hA hE hL
  go_enter Try.func73, Try.ntmps73
  go_wp2
  go_ret
  exact ⟨rfl, rfl⟩
theorem getOne (g p m base : Nat) (w : World) (hF : IsField w g p m base) :
    Calls Try.prog 72 #[fieldPtr g] w (PtrOut (fieldPtr g) [1] w) := by
  obtain ⟨ge, gl, qz, qo, a1, a2, a3, a4, a5⟩ := hF
  have d2 : w.cell? ⟨g, 3, none⟩ = some (.pointer (some ⟨qo, 0, none⟩)) := a1.cell? 3
  unfold fieldPtr at *
  clear a1 a2 a3 a4
  have H4 := hid a5
  clear a5
  go_enter Try.func72, Try.ntmps72
  go_wp2
  go_ret
  exact ⟨qo, _, rfl, H4.out, Below.refl _ _⟩

theorem isZeroT (q B : Nat) (F : Value) (l : List Nat) (w : World) (hP : IsPoly w B q F l) (h1 : 1 ≤ l.length) (hl : l.length ≤ 1000000) (h0 : l.getD 0 0 = 0) :
    Calls Try.prog 68 #[fieldPtr q] w (SameOut (.bool true) w) := by
  obtain ⟨b, o, c, c0, c1, hc⟩ := hP.coef h1
  have ck := hc 0 (by omega)
  rw [h0, Nat.add_zero] at ck
  simp only [Int.natCast_zero] at ck
  have hlt : (0 : Int) < (l.length : Int) := by omega
  generalize l.length = n at *
  unfold fieldPtr
  clear hc hP h0 c0
  go_enter Try.func68, Try.ntmps68
  go_wp2
  go_ret
  exact ⟨rfl, rfl⟩
theorem isZeroF (q B : Nat) (F : Value) (l : List Nat) (w : World) (hP : IsPoly w B q F l) (h1 : 1 ≤ l.length) (hl : l.length ≤ 1000000) (h0 : l.getD 0 0 ≠ 0) :
    Calls Try.prog 68 #[fieldPtr q] w (SameOut (.bool false) w) := by
  obtain ⟨b, o, c, c0, c1, hc⟩ := hP.coef h1
  have ck := hc 0 (by omega)
  rw [Nat.add_zero] at ck
  have hlt : (0 : Int) < (l.length : Int) := by omega
  have hz : (((l.getD 0 0 : Nat) : Int) == 0) = false := by rw [beq_eq_false_iff_ne]; omega
  generalize l.getD 0 0 = z at *
  generalize l.length = n at *
  unfold fieldPtr
  clear hc hP h0 c0
  go_enter Try.func68, Try.ntmps68
  go_wp2
  go_ret
  exact ⟨rfl, rfl⟩
theorem degree (q B : Nat) (F : Value) (l : List Nat) (w : World) (hP : IsPoly w B q F l) (h1 : 1 ≤ l.length) (hl : l.length ≤ 1000000) :
    Calls Try.prog 69 #[fieldPtr q] w (SameOut (.int .i64 ((l.length - 1 : Nat) : Int)) w) := by
  obtain ⟨b, o, c, c0, c1, hc⟩ := hP.coef h1
  have e1 := hid (show ((l.length - 1 : Nat) : Int) = (l.length : Int) - 1 by omega)
  generalize l.length = n at *
  unfold fieldPtr
  clear hc hP c0
  go_enter Try.func69, Try.ntmps69
  go_wp2
  go_ret
  exact ⟨by rw [e1.out]; rfl, rfl⟩

set_option maxHeartbeats 1000000 in
theorem inverse (g p m base a : Nat) (w : World) (h : IsGF p m) (hF : IsField w g p m base) (h0 : 0 < a) (ha : a < 2 ^ m) :
    Calls Try.prog 70 #[fieldPtr g, .int .i64 a] w (DrewOut (.tuple #[.int .i64 (inv p m a : Nat), .nilIface]) w) := by
  have hN1 : 2 ^ m ≤ 4096 := Nat.pow_le_pow_right (n := 2) (by omega) h.small
  have hl := lg_lt h h0 ha
  have hinv : inv p m a = ex p m (2 ^ m - 1 - lg p m a) := rfl
  obtain ⟨ge, gl, qz, qo, hA, hE, hL, r1, r2⟩ := hF
  have hF' : IsField w g p m base := ⟨ge, gl, qz, qo, hA, hE, hL, r1, r2⟩
  obtain ⟨ge', N', c0, c1, hkN⟩ := hF'.expCell (k := 2 ^ m - 1 - lg p m a) (by omega)
  obtain ⟨gl', N2, c2, c3, hkN2⟩ := hF'.logCell ha
  have c4 : w.cell? ⟨g, 4, none⟩ = some (.int .i64 (2 ^ m : Nat)) := hA.cell? 4
  rw [← hinv] at c1
  generalize inv p m a = y at *
  generalize lg p m a = k at *
  generalize 2 ^ m = N at *
  have ha' : ((a : Int) == 0) = false := by rw [beq_eq_false_iff_ne]; omega
  have i1 : (a : Int) < (N2 : Int) := by omega
  have i2 : (0 : Int) ≤ (N : Int) - (k : Int) - 1 := by omega
  have i3 : (N : Int) - (k : Int) - 1 < (N' : Int) := by omega
  have i4 : ((N : Int) - (k : Int) - 1).toNat = N - 1 - k := by omega
  unfold fieldPtr
  clear hF' hA hE hL r1 r2 hinv
  go_enter Try.func70, Try.ntmps70
  go_wp2
  go_quiet (fail)
  go_wp2
  go_ret2
  exact ⟨rfl, _, rfl⟩
end Go.Proofs.Ytpkmknbmjlnkgaa
