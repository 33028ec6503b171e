/- The lowest bit that is set: by the and of a number and its negative, and a table of 32. Plain. -/
import Derived.WalkKit
namespace Go.Proofs.YtmaghlckgfihcaaDoor

theorem low_odd (q m : Nat) (hm : 0 < m) (h : 2 * q + 1 < 2 ^ m) : (2 * q + 1) &&& (2 ^ m - (2 * q + 1)) = 1 := by
  apply Nat.eq_of_testBit_eq
  intro i
  rw [Nat.testBit_and, Nat.testBit_two_pow_sub_succ (by omega)]
  cases i with
  | zero => simp [hm]
  | succ i =>
    have e1 : (2 * q + 1).testBit (i + 1) = q.testBit i := by rw [Nat.testBit_succ]; congr 1; omega
    have e2 : (2 * q).testBit (i + 1) = q.testBit i := by rw [Nat.testBit_succ]; congr 1; omega
    have e3 : (1 : Nat).testBit (i + 1) = false := by rw [Nat.testBit_succ]; simp
    rw [e1, e2, e3]
    cases q.testBit i <;> simp

theorem low_and (v k : Nat) (hv : v < 2 ^ 32) (hk : k < 32) (hb : v.testBit k = true) (hl : ∀ j, j < k → v.testBit j = false) : v &&& (2 ^ 32 - v) = 2 ^ k := by
  have hz : v % 2 ^ k = 0 := by
    apply Nat.eq_of_testBit_eq
    intro i
    rw [Nat.testBit_mod_two_pow, Nat.zero_testBit]
    by_cases h : i < k
    · rw [hl i h]; simp
    · simp [h]
  obtain ⟨a, ha⟩ := Nat.dvd_of_mod_eq_zero hz
  subst ha
  have hp := Nat.two_pow_pos k
  have hodd : a % 2 = 1 := by
    rw [Nat.testBit_eq_decide_div_mod_eq, Nat.mul_div_cancel_left _ hp] at hb
    simpa using hb
  obtain ⟨q, rfl⟩ : ∃ q, a = 2 * q + 1 := ⟨a / 2, by omega⟩
  have e32 : (2 : Nat) ^ 32 = 2 ^ k * 2 ^ (32 - k) := by rw [← Nat.pow_add]; congr 1; omega
  have hlt : 2 * q + 1 < 2 ^ (32 - k) := by rw [e32] at hv; exact Nat.lt_of_mul_lt_mul_left hv
  rw [e32, ← Nat.mul_sub]
  have := Nat.shiftLeft_and_distrib (a := 2 * q + 1) (b := 2 ^ (32 - k) - (2 * q + 1)) (i := k)
  rw [low_odd q (32 - k) (by omega) hlt] at this
  simp only [Nat.shiftLeft_eq] at this
  rw [Nat.mul_comm (2 ^ k), Nat.mul_comm (2 ^ k), ← this, Nat.one_mul]

/-- The place in the table. -/
def tzAt (k : Nat) : Nat := (2 ^ k * 125613361) % 4294967296 / 134217728
def tzTab : List Nat := [0, 1, 28, 2, 29, 14, 24, 3, 30, 22, 20, 15, 25, 17, 4, 8, 31, 27, 13, 23, 21, 19, 16, 7, 26, 12, 18, 6, 11, 5, 10, 9]
theorem tz_all : (List.range 32).all (fun k => decide (tzAt k < 32) && decide (tzTab.getD (tzAt k) 0 = k)) = true := by decide +kernel
theorem tz_at (k : Nat) (hk : k < 32) : tzAt k < 32 ∧ tzTab.getD (tzAt k) 0 = k := by
  have := List.all_eq_true.1 tz_all k (List.mem_range.2 hk)
  simpa using this

/-- A number that is not zero has a lowest bit. -/
theorem low_some (v : Nat) (hv : v < 2 ^ 32) (h0 : v ≠ 0) : ∃ k, k < 32 ∧ v.testBit k = true ∧ ∀ j, j < k → v.testBit j = false := by
  obtain ⟨i, hi⟩ := Nat.exists_testBit_of_ne_zero h0
  have : ∀ n i, i ≤ n → v.testBit i = true → ∃ k, k ≤ n ∧ v.testBit k = true ∧ ∀ j, j < k → v.testBit j = false := by
    intro n
    induction n with
    | zero => intro i hi hb; exact ⟨0, Nat.le_refl _, by obtain rfl : i = 0 := by omega
                                                         exact hb, fun j hj => by omega⟩
    | succ n ih =>
      intro i hi hb
      by_cases hx : ∃ j, j ≤ n ∧ v.testBit j = true
      · obtain ⟨j, hj, hbj⟩ := hx
        obtain ⟨k, h1, h2, h3⟩ := ih j hj hbj
        exact ⟨k, by omega, h2, h3⟩
      · refine ⟨i, hi, hb, fun j hj => ?_⟩
        cases hc : v.testBit j with
        | false => rfl
        | true => exact absurd ⟨j, by omega, hc⟩ hx
  have hi32 : i < 32 := by
    rcases Nat.lt_or_ge i 32 with h | h
    · exact h
    · rw [Nat.testBit_lt_two_pow (Nat.lt_of_lt_of_le hv (Nat.pow_le_pow_right (by omega) h))] at hi; cases hi
  obtain ⟨k, h1, h2, h3⟩ := this 31 i (by omega) hi
  exact ⟨k, by omega, h2, h3⟩

/-- The first place from 'from' on, below n, at which B holds; n, if there is none. -/
def IsNext (B : Nat → Bool) (n fr r : Nat) : Prop := (n ≤ fr ∧ r = n) ∨ (fr < n ∧ fr ≤ r ∧ r ≤ n ∧ (∀ j, fr ≤ j → j < r → B j = false) ∧ (r < n → B r = true))
theorem IsNext.unique {B C : Nat → Bool} {n fr r s : Nat} (h : IsNext B n fr r) (h2 : IsNext C n fr s) (he : ∀ j, j < n → B j = C j) : r = s := by
  rcases h with ⟨h, rfl⟩ | ⟨h, a1, a2, a3, a4⟩
  · rcases h2 with ⟨_, rfl⟩ | ⟨h', _⟩
    · rfl
    · omega
  · rcases h2 with ⟨h', _⟩ | ⟨h', b1, b2, b3, b4⟩
    · omega
    · rcases Nat.lt_trichotomy r s with hlt | rfl | hlt
      · have := a4 (by omega); rw [he r (by omega), b3 r a1 hlt] at this; cases this
      · rfl
      · have := b4 (by omega); rw [← he s (by omega), a3 s b1 hlt] at this; cases this
end Go.Proofs.YtmaghlckgfihcaaDoor
