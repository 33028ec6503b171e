/- Bits that are set, counted: the plain law. -/
import Derived.Test.YtpffffhgmhpkiaaBits
namespace Go.Proofs.Ytpffffhgmhpkiaa

/-- How many of the lowest k bits are set. -/
def pops : Nat → Nat → Nat
  | 0, _ => 0
  | k + 1, x => x % 2 + pops k (x / 2)
theorem pops_zero : ∀ k, pops k 0 = 0
  | 0 => rfl
  | k + 1 => by simp [pops, pops_zero k]
theorem xor_half (x y : Nat) : (x ^^^ y) / 2 = x / 2 ^^^ y / 2 := by
  apply Nat.eq_of_testBit_eq
  intro i
  rw [Nat.testBit_div_two, Nat.testBit_xor, Nat.testBit_xor, Nat.testBit_div_two, Nat.testBit_div_two]
theorem xor_low (x y : Nat) : (x ^^^ y) % 2 = (x % 2 + y % 2) % 2 := by
  have h := Nat.testBit_xor x y 0
  simp only [Nat.testBit_zero] at h
  rcases Nat.mod_two_eq_zero_or_one x with hx | hx <;> rcases Nat.mod_two_eq_zero_or_one y with hy | hy <;> rcases Nat.mod_two_eq_zero_or_one (x ^^^ y) with hz | hz <;> simp_all
theorem pops_tri : ∀ k x y, pops k (x ^^^ y) ≤ pops k x + pops k y
  | 0, _, _ => Nat.zero_le _
  | k + 1, x, y => by
    simp only [pops]
    rw [xor_half, xor_low]
    have := pops_tri k (x / 2) (y / 2)
    omega
theorem and_half (x y : Nat) : (x &&& y) / 2 = x / 2 &&& y / 2 := by
  apply Nat.eq_of_testBit_eq
  intro i
  rw [Nat.testBit_div_two, Nat.testBit_and, Nat.testBit_and, Nat.testBit_div_two, Nat.testBit_div_two]
theorem and_low (x y : Nat) : (x &&& y) % 2 = (x % 2) * (y % 2) := by
  have h := Nat.testBit_and x y 0
  simp only [Nat.testBit_zero] at h
  rcases Nat.mod_two_eq_zero_or_one x with hx | hx <;> rcases Nat.mod_two_eq_zero_or_one y with hy | hy <;> rcases Nat.mod_two_eq_zero_or_one (x &&& y) with hz | hz <;> simp_all
theorem and_self' (x : Nat) : x &&& x = x := Nat.and_self x
/-- The lowest bit that is set, taken away. -/
theorem pops_less : ∀ k x, 0 < x → x < 2 ^ k → pops k (x &&& (x - 1)) + 1 = pops k x
  | 0, x, h1, h2 => by simp at h2; omega
  | k + 1, x, h1, h2 => by
    simp only [pops]
    rw [and_half, and_low]
    rcases Nat.mod_two_eq_zero_or_one x with hx | hx
    · have e : (x - 1) / 2 = x / 2 - 1 := by omega
      rw [e, hx, Nat.zero_mul, Nat.zero_add, Nat.zero_add]
      exact pops_less k (x / 2) (by omega) (by rw [Nat.pow_succ] at h2; omega)
    · have e : (x - 1) / 2 = x / 2 := by omega
      have e2 : (x - 1) % 2 = 0 := by omega
      rw [e, e2, hx, Nat.and_self]
      omega
theorem pops_le : ∀ k x, pops k x ≤ k
  | 0, _ => Nat.le_refl _
  | k + 1, x => by simp only [pops]; have := pops_le k (x / 2); omega
theorem pops_pos : ∀ k x, 0 < x → x < 2 ^ k → 0 < pops k x := fun k x h1 h2 => by
  have := pops_less k x h1 h2; omega

/-- The 18 bits of the versions from 7 on. -/
def vtab : List Nat := [31892, 34236, 39577, 42195, 48118, 51042, 55367, 58893, 63784, 68472, 70749, 76311, 79154, 84390, 87683, 92361, 96236, 102084, 102881, 110507, 110734, 117786, 119615, 126325, 127568, 133589, 136944, 141498, 145311, 150283, 152622, 158308, 161089, 167017]
def far (x y : Nat) : Nat := pops 18 (x ^^^ y)
theorem far_tab : ((List.range 34).all fun i => (List.range 34).all fun j => i == j || decide (8 ≤ far (vtab.getD i 0) (vtab.getD j 0))) = true := by decide +kernel
theorem far_self (x : Nat) : far x x = 0 := by unfold far; rw [Nat.xor_self]; exact pops_zero _
/-- Near to one alone. -/
theorem near_one (x i j : Nat) (hi : i < 34) (hj : j < 34) (h1 : far x (vtab.getD i 0) ≤ 3) (h2 : far x (vtab.getD j 0) ≤ 3) : i = j := by
  have h := List.all_eq_true.1 (List.all_eq_true.1 far_tab i (List.mem_range.2 hi)) j (List.mem_range.2 hj)
  rcases Bool.or_eq_true_iff.1 h with h | h
  · simpa using h
  · have h := of_decide_eq_true h
    have t := pops_tri 18 (x ^^^ vtab.getD i 0) (x ^^^ vtab.getD j 0)
    have e : (x ^^^ vtab.getD i 0) ^^^ (x ^^^ vtab.getD j 0) = vtab.getD i 0 ^^^ vtab.getD j 0 := by
      rw [Nat.xor_comm x, Nat.xor_assoc, ← Nat.xor_assoc x x, Nat.xor_self, Nat.zero_xor]
    rw [e] at t
    unfold far at h h1 h2
    omega
theorem xor_lt18 {a b : Nat} (ha : a < 262144) (hb : b < 262144) : a ^^^ b < 262144 := Nat.xor_lt_two_pow (n := 18) ha hb
end Go.Proofs.Ytpffffhgmhpkiaa
