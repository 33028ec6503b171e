/- The walk of a product in a field, by its tables, and of the reference's product. -/
import Derived.Test.YtpkmknbmjlnkgaaFieldW
namespace Go.Proofs.Ytpkmknbmjlnkgaa
open Go.RowKit
set_option linter.unusedVariables false

/-- A value is handed back; the world has drawn, no more. -/
def DrewOut (v : Value) (w : World) (e : Ending) (w' : World) : Prop := e = .returned v ∧ ∃ n, w' = w.drewN n

/-- The tables of a field, ready to be read: of elements a, b that are not 0. -/
theorem IsField.tables {w : World} {g p m base : Nat} (hF : IsField w g p m base) (h : IsGF p m) {a b : Nat} (ha : a < 2 ^ m) (hb : b < 2 ^ m) (ha0 : 0 < a) (hb0 : 0 < b) :
    ∃ ge gl i j N : Nat, w.cell? ⟨g, 0, none⟩ = some (.slice (some ⟨ge, 0, none⟩) N N) ∧ w.cell? ⟨g, 1, none⟩ = some (.slice (some ⟨gl, 0, none⟩) N N) ∧ w.cell? ⟨g, 4, none⟩ = some (.int .i64 N) ∧
      w.cell? ⟨gl, a, none⟩ = some (.int .i64 i) ∧ w.cell? ⟨gl, b, none⟩ = some (.int .i64 j) ∧ w.cell? ⟨ge, (i + j) % (N - 1), none⟩ = some (.int .i64 (gm p m a b : Nat)) ∧
      i < N - 1 ∧ j < N - 1 ∧ N ≤ 4096 ∧ 4 ≤ N ∧ a < N ∧ b < N := by
  obtain ⟨ge, gl, qz, qo, hA, hE, hL, _, _⟩ := hF
  obtain ⟨i, hi, hia⟩ := ex_surj h ha0 ha
  obtain ⟨j, hj, hjb⟩ := ex_surj h hb0 hb
  have hN1 : 2 ^ m ≤ 4096 := Nat.pow_le_pow_right (n := 2) (by omega) h.small
  have hN0 : 4 ≤ 2 ^ m := Nat.pow_le_pow_right (n := 2) (by omega) h.pos
  have log : ∀ a i, a < 2 ^ m → i < 2 ^ m - 1 → ex p m i = a → w.cell? ⟨gl, a, none⟩ = some (.int .i64 (i : Nat)) := by
    intro a i ha hi he
    have e1 := logTo_ex h (2 ^ m - 1) (Nat.le_refl _) i hi
    rw [he, List.getD, List.getElem?_eq_getElem (by rw [logTo_length]; exact ha)] at e1
    simp only [Option.getD_some] at e1
    rw [hL.cell a (by rw [ints_length, logTo_length]; exact ha)]
    simp [ints, e1]
  refine ⟨ge, gl, i, j, 2 ^ m, hA.cell? 0, hA.cell? 1, hA.cell? 4, log a i ha hi hia, log b j hb hj hjb, ?_, hi, hj, hN1, hN0, ha, hb⟩
  have hlt : (i + j) % (2 ^ m - 1) < 2 ^ m - 1 := Nat.mod_lt _ (by omega)
  have e2 := expTo_getD (p := p) (m := m) (2 ^ m) ((i + j) % (2 ^ m - 1)) (by omega) (by omega)
  rw [List.getD, List.getElem?_eq_getElem (by rw [expTo_length]; omega)] at e2
  simp only [Option.getD_some] at e2
  rw [hE.cell _ (by rw [ints_length, expTo_length]; omega)]
  rw [← hia, ← hjb, gm_exex h, ← ex_mod h (i + j)]
  simp [ints, e2]

set_option maxHeartbeats 1000000 in
theorem multiply (g p m base a b : Nat) (w : World) (h : IsGF p m) (hF : IsField w g p m base) (ha : a < 2 ^ m) (hb : b < 2 ^ m) :
    Calls Try.prog 31 #[fieldPtr g, .int .i64 a, .int .i64 b] w (DrewOut (.int .i64 (gm p m a b : Nat)) w) := by
  rcases Nat.eq_zero_or_pos a with h0 | h0
  · subst h0
    rw [zero_gm]
    go_enter Try.func31, Try.ntmps31
    go_wp2
    go_ret
    exact ⟨rfl, 0, rfl⟩
  rcases Nat.eq_zero_or_pos b with h1 | h1
  · subst h1
    rw [gm_zero]
    have ha' : ((a : Int) == 0) = false := by rw [beq_eq_false_iff_ne]; omega
    go_enter Try.func31, Try.ntmps31
    go_wp2
    go_ret
    exact ⟨rfl, 0, rfl⟩
  obtain ⟨ge, gl, i, j, N, c0, c1, c4, ca, cb, cc, hi, hj, hN1, hN0, haN, hbN⟩ := hF.tables h ha hb h0 h1
  have ha' : ((a : Int) == 0) = false := by rw [beq_eq_false_iff_ne]; omega
  have hb' : ((b : Int) == 0) = false := by rw [beq_eq_false_iff_ne]; omega
  generalize gm p m a b = r at *
  have e1 : ((i : Int) + (j : Int)) % ((N : Int) - 1) = (((i + j) % (N - 1) : Nat) : Int) := by
    rw [show (N : Int) - 1 = ((N - 1 : Nat) : Int) from by omega, show (i : Int) + (j : Int) = ((i + j : Nat) : Int) from by omega]
    exact (Int.natCast_emod _ _).symm
  have hlt : (i + j) % (N - 1) < N := Nat.lt_of_lt_of_le (Nat.mod_lt _ (by omega)) (by omega)
  generalize (i + j) % (N - 1) = k at *
  have haN' : (a : Int) < (N : Int) := by omega
  have hbN' : (b : Int) < (N : Int) := by omega
  have hkN' : (k : Int) < (N : Int) := by omega
  clear h hF ha hb
  unfold fieldPtr
  go_enter Try.func31, Try.ntmps31
  go_wp2
  go_quiet (fail)
  go_wp2
  go_ret
  exact ⟨rfl, _, rfl⟩
end Go.Proofs.Ytpkmknbmjlnkgaa
