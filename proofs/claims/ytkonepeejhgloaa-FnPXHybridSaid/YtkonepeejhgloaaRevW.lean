/- math/bits.Reverse32: the bits of a word, turned round. -/
import Derived.Test.YtkonepeejhgloaaMatW
namespace Go.Proofs.Ytkonepeejhgloaa
open Go.RowKit
set_option linter.unusedVariables false

/-- Neighbouring groups of bits change places. -/
def swapN (k m x : Nat) : Nat := (x / 2 ^ k &&& m) ||| ((x &&& m) * 2 ^ k % 4294967296)
theorem swap_lt {k m x : Nat} (hm : m < 4294967296) : swapN k m x < 4294967296 := by
  refine Nat.or_lt_two_pow (n := 32) ?_ (Nat.mod_lt _ (by decide))
  exact Nat.lt_of_le_of_lt Nat.and_le_right hm
theorem swap_bit {k m x i : Nat} (hi : i < 32) : (swapN k m x).testBit i = ((x.testBit (i + k) && m.testBit i) || (decide (k ≤ i) && (x.testBit (i - k) && m.testBit (i - k)))) := by
  unfold swapN
  rw [show (4294967296 : Nat) = 2 ^ 32 from rfl, Nat.testBit_or, Nat.testBit_and, Nat.testBit_mod_two_pow, Nat.testBit_div_two_pow, Nat.testBit_mul_two_pow, Nat.testBit_and]
  simp [hi]
theorem swap1 {x i : Nat} (hi : i < 32) : (swapN 1 1431655765 x).testBit i = x.testBit (i ^^^ 1) := by
  have h : ∀ i, i < 32 → ((1431655765 : Nat).testBit i = true ∧ i ^^^ 1 = i + 1 ∧ (decide (1 ≤ i) && (1431655765 : Nat).testBit (i - 1)) = false) ∨ ((1431655765 : Nat).testBit i = false ∧ i ^^^ 1 = i - 1 ∧ 1 ≤ i ∧ (1431655765 : Nat).testBit (i - 1) = true) := by decide
  rw [swap_bit hi]
  rcases h i hi with ⟨a, b, c⟩ | ⟨a, b, c, d⟩
  · rw [a, b]
    simp only [Bool.and_eq_false_iff, decide_eq_false_iff_not] at c
    rcases c with c | c
    · simp [c]
    · simp [c]
  · rw [a, b, d]; simp [c]
theorem swap2 {x i : Nat} (hi : i < 32) : (swapN 2 858993459 x).testBit i = x.testBit (i ^^^ 2) := by
  have h : ∀ i, i < 32 → ((858993459 : Nat).testBit i = true ∧ i ^^^ 2 = i + 2 ∧ (decide (2 ≤ i) && (858993459 : Nat).testBit (i - 2)) = false) ∨ ((858993459 : Nat).testBit i = false ∧ i ^^^ 2 = i - 2 ∧ 2 ≤ i ∧ (858993459 : Nat).testBit (i - 2) = true) := by decide
  rw [swap_bit hi]
  rcases h i hi with ⟨a, b, c⟩ | ⟨a, b, c, d⟩
  · rw [a, b]
    simp only [Bool.and_eq_false_iff, decide_eq_false_iff_not] at c
    rcases c with c | c
    · simp [c]
    · simp [c]
  · rw [a, b, d]; simp [c]
theorem swap4 {x i : Nat} (hi : i < 32) : (swapN 4 252645135 x).testBit i = x.testBit (i ^^^ 4) := by
  have h : ∀ i, i < 32 → ((252645135 : Nat).testBit i = true ∧ i ^^^ 4 = i + 4 ∧ (decide (4 ≤ i) && (252645135 : Nat).testBit (i - 4)) = false) ∨ ((252645135 : Nat).testBit i = false ∧ i ^^^ 4 = i - 4 ∧ 4 ≤ i ∧ (252645135 : Nat).testBit (i - 4) = true) := by decide
  rw [swap_bit hi]
  rcases h i hi with ⟨a, b, c⟩ | ⟨a, b, c, d⟩
  · rw [a, b]
    simp only [Bool.and_eq_false_iff, decide_eq_false_iff_not] at c
    rcases c with c | c
    · simp [c]
    · simp [c]
  · rw [a, b, d]; simp [c]
theorem swap8 {x i : Nat} (hi : i < 32) : (swapN 8 16711935 x).testBit i = x.testBit (i ^^^ 8) := by
  have h : ∀ i, i < 32 → ((16711935 : Nat).testBit i = true ∧ i ^^^ 8 = i + 8 ∧ (decide (8 ≤ i) && (16711935 : Nat).testBit (i - 8)) = false) ∨ ((16711935 : Nat).testBit i = false ∧ i ^^^ 8 = i - 8 ∧ 8 ≤ i ∧ (16711935 : Nat).testBit (i - 8) = true) := by decide
  rw [swap_bit hi]
  rcases h i hi with ⟨a, b, c⟩ | ⟨a, b, c, d⟩
  · rw [a, b]
    simp only [Bool.and_eq_false_iff, decide_eq_false_iff_not] at c
    rcases c with c | c
    · simp [c]
    · simp [c]
  · rw [a, b, d]; simp [c]
def swapH (x : Nat) : Nat := x / 2 ^ 16 ||| (x * 2 ^ 16 % 4294967296)
theorem swapH_lt {x : Nat} (hx : x < 4294967296) : swapH x < 4294967296 :=
  Nat.or_lt_two_pow (n := 32) (Nat.lt_of_le_of_lt (Nat.div_le_self _ _) hx) (Nat.mod_lt _ (by decide))
theorem swap16 {x i : Nat} (hx : x < 4294967296) (hi : i < 32) : (swapH x).testBit i = x.testBit (i ^^^ 16) := by
  have h : ∀ i, i < 32 → (i < 16 ∧ i ^^^ 16 = i + 16) ∨ (16 ≤ i ∧ i ^^^ 16 = i - 16) := by decide
  unfold swapH
  rw [show (4294967296 : Nat) = 2 ^ 32 from rfl, Nat.testBit_or, Nat.testBit_mod_two_pow, Nat.testBit_div_two_pow, Nat.testBit_mul_two_pow]
  rcases h i hi with ⟨a, b⟩ | ⟨a, b⟩
  · rw [b]; simp [show ¬ 16 ≤ i by omega]
  · rw [b, Nat.testBit_lt_two_pow (x := x) (i := i + 16) (Nat.lt_of_lt_of_le (show x < 2 ^ 32 by omega) (Nat.pow_le_pow_right (by omega) (by omega)))]
    simp [hi, a]
def rev32 (x : Nat) : Nat := swapH (swapN 8 16711935 (swapN 4 252645135 (swapN 2 858993459 (swapN 1 1431655765 x))))
theorem rev_lt (x : Nat) : rev32 x < 4294967296 := swapH_lt (swap_lt (by decide))
theorem rev_bit (x i : Nat) (hi : i < 32) : (rev32 x).testBit i = x.testBit (31 - i) := by
  have h : ∀ i, i < 32 → i ^^^ 16 < 32 ∧ i ^^^ 8 < 32 ∧ i ^^^ 4 < 32 ∧ i ^^^ 2 < 32 := by decide
  have h2 : ∀ i, i < 32 → ((((i ^^^ 16) ^^^ 8) ^^^ 4) ^^^ 2) ^^^ 1 = 31 - i := by decide
  unfold rev32
  have a1 := (h i hi).1
  have a2 := (h _ a1).2.1
  have a3 := (h _ a2).2.2.1
  have a4 := (h _ a3).2.2.2
  rw [swap16 (swap_lt (by decide)) hi, swap8 a1, swap4 a2, swap2 a3, swap1 a4, h2 i hi]

theorem swapInt (k M y : Nat) (c : Int) (hc : c = ((2 ^ k : Nat) : Int)) (hy : y < 4294967296) (hM : M < 4294967296) : bits .or .u32 (bits .and .u32 ((y : Int) / c) (M : Int)) (bits .and .u32 (y : Int) (M : Int) * c % 4294967296) = ((swapN k M y : Nat) : Int) := by
  have e1 : ((y : Int) / c) = ((y / 2 ^ k : Nat) : Int) := by rw [hc]; exact (Int.natCast_ediv _ _).symm
  have h1 : y / 2 ^ k < 4294967296 := Nat.lt_of_le_of_lt (Nat.div_le_self _ _) hy
  rw [e1, u32_and_nat _ _ h1 hM, u32_and_nat _ _ hy hM, hc]
  rw [show (((y &&& M : Nat) : Int) * ((2 ^ k : Nat) : Int) % 4294967296) = (((y &&& M) * 2 ^ k % 4294967296 : Nat) : Int) from by rw [Int.natCast_emod, Int.natCast_mul]; rfl]
  rw [u32_or_nat _ _ (Nat.lt_of_le_of_lt Nat.and_le_right hM) (Nat.mod_lt _ (by decide))]
  rfl
theorem halfInt (y : Nat) (hy : y < 4294967296) : bits .or .u32 ((y : Int) / 65536) ((y : Int) * 65536 % 4294967296) = ((swapH y : Nat) : Int) := by
  have e1 : ((y : Int) / 65536) = ((y / 2 ^ 16 : Nat) : Int) := by rw [Int.natCast_ediv]; rfl
  have e2 : ((y : Int) * 65536 % 4294967296) = ((y * 2 ^ 16 % 4294967296 : Nat) : Int) := by rw [Int.natCast_emod, Int.natCast_mul]; rfl
  rw [e1, e2, u32_or_nat _ _ (Nat.lt_of_le_of_lt (Nat.div_le_self _ _) hy) (Nat.mod_lt _ (by decide))]
  rfl

end Go.Proofs.Ytkonepeejhgloaa
