/- Fields of the symbols, polynomials over them: plain laws, and the reference product (turned from the seat of Reed-Solomon). -/
import Derived.Test.YtliephokeafllaaGreatDoorProg
import Derived.Test.YtliephokeafllaaGreatDoorMem
import Derived.Test.YtliephokeafllaaGreatDoorBits
import Derived.IntWalk
import Derived.BigQuiet
import Derived.Deep.QuietTactic
import Derived.KernelRfl
import Derived.Deep.RegionHeld3
namespace Go.Proofs.YtliephokeafllaaGreatDoor.Rs
/- The fields of the symbols as plain arithmetic: elements are numbers, their bits polynomials over two elements, less multiples of the primitive one. No program. -/
section
set_option linter.unusedSimpArgs false

/-- An element times the unknown. -/
def mx (p m a : Nat) : Nat := if 2 ^ m ≤ 2 * a then (2 * a) ^^^ p else 2 * a
/-- The powers of the unknown. -/
def ex (p m : Nat) : Nat → Nat
  | 0 => 1
  | i + 1 => mx p m (ex p m i)
/-- The product, by the bits of the second factor (at most k of them). -/
def gmF (p m a : Nat) : Nat → Nat → Nat
  | 0, _ => 0
  | k + 1, c => mx p m (gmF p m a k (c / 2)) ^^^ (if c % 2 = 1 then a else 0)
def gm (p m a b : Nat) : Nat := gmF p m a m b

/-- What is checked of a field by reckoning. -/
def zeroAt (p m : Nat) : Nat → Bool
  | 0 => true
  | k + 1 => gmF p m (2 ^ k) (m + 1) p == 0 && zeroAt p m k
def maskTo (p m : Nat) : Nat → Nat → Nat → Nat
  | 0, _, acc => acc
  | k + 1, x, acc => maskTo p m k (mx p m x) (acc ||| 1 <<< x)
def noOne (p m : Nat) : Nat → Nat → Bool
  | 0, _ => true
  | k + 1, x => x != 1 && noOne p m k (mx p m x)
def exAt (p m : Nat) : Nat → Nat → Nat
  | 0, x => x
  | k + 1, x => exAt p m k (mx p m x)

/-- A field: the primitive polynomial and how many bits an element has. -/
structure IsGF (p m : Nat) : Prop where
  pos : 2 ≤ m
  small : m ≤ 12
  low : 2 ^ m ≤ p
  high : p < 2 ^ (m + 1)
  odd : p % 2 = 1
  zero : zeroAt p m m = true
  mask : maskTo p m (2 ^ m - 1) 1 0 = 2 ^ 2 ^ m - 2
  ones : noOne p m (2 ^ m - 2) (mx p m 1) = true
  round : exAt p m (2 ^ m - 1) 1 = 1

theorem gf16 : IsGF 0x13 4 := ⟨by decide, by decide, by decide, by decide, by decide, by decide +kernel, by decide +kernel, by decide +kernel, by decide +kernel⟩
theorem gf64 : IsGF 0x43 6 := ⟨by decide, by decide, by decide, by decide, by decide, by decide +kernel, by decide +kernel, by decide +kernel, by decide +kernel⟩
theorem gf256a : IsGF 0x12D 8 := ⟨by decide, by decide, by decide, by decide, by decide, by decide +kernel, by decide +kernel, by decide +kernel, by decide +kernel⟩
theorem gf256q : IsGF 0x11D 8 := ⟨by decide, by decide, by decide, by decide, by decide, by decide +kernel, by decide +kernel, by decide +kernel, by decide +kernel⟩
theorem gf1024 : IsGF 0x409 10 := ⟨by decide, by decide, by decide, by decide, by decide, by decide +kernel, by decide +kernel, by decide +kernel, by decide +kernel⟩
set_option maxRecDepth 1000000 in
theorem gf4096 : IsGF 0x1069 12 := ⟨by decide, by decide, by decide, by decide, by decide, by decide +kernel, by decide +kernel, by decide +kernel, by decide +kernel⟩

section
variable {p m : Nat}

theorem xor_lc (a b c : Nat) : a ^^^ (b ^^^ c) = b ^^^ (a ^^^ c) := by rw [← Nat.xor_assoc, Nat.xor_comm a b, Nat.xor_assoc]
theorem xor_cl (a b : Nat) : a ^^^ (a ^^^ b) = b := by rw [← Nat.xor_assoc, Nat.xor_self, Nat.zero_xor]
theorem xor_mod2 (c d : Nat) : (c ^^^ d) % 2 = (c + d) % 2 := by
  have := Nat.xor_mod_two_pow (a := c) (b := d) (n := 1)
  simp only [Nat.pow_one] at this
  rw [this]
  rcases Nat.mod_two_eq_zero_or_one c with hc | hc <;> rcases Nat.mod_two_eq_zero_or_one d with hd | hd <;> simp [hc, hd, Nat.add_mod]
theorem xor_zero_iff {a b : Nat} (h : a ^^^ b = 0) : a = b := by
  have e : a ^^^ (a ^^^ b) = b := xor_cl a b
  rw [h, Nat.xor_zero] at e
  exact e
theorem two_mul_xor (a b : Nat) : 2 * (a ^^^ b) = 2 * a ^^^ 2 * b := by
  have := Nat.shiftLeft_xor_distrib (a := a) (b := b) (i := 1)
  simp only [Nat.shiftLeft_eq, Nat.pow_one] at this
  rw [Nat.mul_comm 2, this, Nat.mul_comm a, Nat.mul_comm b]

/-- The element with its upper bit told apart. -/
theorem mx_eq (h : IsGF p m) {a : Nat} (ha : a < 2 ^ m) : mx p m a = 2 * a ^^^ (if a.testBit (m - 1) = true then p else 0) := by
  have hp : 2 ^ m = 2 * 2 ^ (m - 1) := by have := h.pos; rw [show m = (m - 1) + 1 from by omega, Nat.pow_succ]; simp; omega
  have hb : a.testBit (m - 1) = decide (2 ^ m ≤ 2 * a) := by
    rw [Nat.testBit_eq_decide_div_mod_eq]
    have hlt : a / 2 ^ (m - 1) < 2 := Nat.div_lt_of_lt_mul (by omega)
    by_cases hc : 2 ^ m ≤ 2 * a
    · have : 1 ≤ a / 2 ^ (m - 1) := (Nat.le_div_iff_mul_le (Nat.two_pow_pos _)).2 (by omega)
      rw [show a / 2 ^ (m - 1) = 1 from by omega]
      simp [hc]
    · have : a / 2 ^ (m - 1) = 0 := Nat.div_eq_of_lt (by omega)
      rw [this]
      simp [hc]
  unfold mx
  rw [hb]
  by_cases hc : 2 ^ m ≤ 2 * a <;> simp [hc]

theorem mx_lt (h : IsGF p m) {a : Nat} (ha : a < 2 ^ m) : mx p m a < 2 ^ m := by
  unfold mx
  split
  · rename_i hc
    have h1 := h.low
    have h2 := h.high
    have hp : 2 ^ (m + 1) = 2 * 2 ^ m := by rw [Nat.pow_succ, Nat.mul_comm]
    have e1 : (2 * a) >>> m = 1 := by
      rw [Nat.shiftRight_eq_div_pow]
      have : 2 * a / 2 ^ m < 2 := Nat.div_lt_of_lt_mul (by omega)
      have : 1 ≤ 2 * a / 2 ^ m := (Nat.le_div_iff_mul_le (Nat.two_pow_pos _)).2 (by omega)
      omega
    have e2 : p >>> m = 1 := by
      rw [Nat.shiftRight_eq_div_pow]
      have : p / 2 ^ m < 2 := Nat.div_lt_of_lt_mul (by omega)
      have : 1 ≤ p / 2 ^ m := (Nat.le_div_iff_mul_le (Nat.two_pow_pos _)).2 (by omega)
      omega
    have e3 : (2 * a ^^^ p) >>> m = 0 := by rw [Nat.shiftRight_xor_distrib, e1, e2]; rfl
    rw [Nat.shiftRight_eq_div_pow] at e3
    exact Nat.lt_of_div_eq_zero (Nat.two_pow_pos _) e3
  · omega

theorem mx_xor (h : IsGF p m) {a b : Nat} (ha : a < 2 ^ m) (hb : b < 2 ^ m) : mx p m (a ^^^ b) = mx p m a ^^^ mx p m b := by
  rw [mx_eq h ha, mx_eq h hb, mx_eq h (Nat.xor_lt_two_pow ha hb), two_mul_xor, Nat.testBit_xor]
  cases a.testBit (m - 1) <;> cases b.testBit (m - 1) <;> simp [Nat.xor_assoc, Nat.xor_comm, xor_lc, xor_cl]

theorem mx_zero (p m : Nat) : mx p m 0 = 0 := by
  unfold mx
  rw [if_neg (by have := Nat.two_pow_pos m; omega)]

theorem gmF_lt (h : IsGF p m) {a : Nat} (ha : a < 2 ^ m) (k c : Nat) : gmF p m a k c < 2 ^ m := by
  induction k generalizing c with
  | zero => exact Nat.two_pow_pos m
  | succ k ih =>
    unfold gmF
    refine Nat.xor_lt_two_pow (mx_lt h (ih _)) ?_
    split
    · exact ha
    · exact Nat.two_pow_pos m

theorem gmF_right (h : IsGF p m) {a : Nat} (ha : a < 2 ^ m) (k c d : Nat) : gmF p m a k (c ^^^ d) = gmF p m a k c ^^^ gmF p m a k d := by
  induction k generalizing c d with
  | zero => simp [gmF]
  | succ k ih =>
    have e1 : (c ^^^ d) / 2 = c / 2 ^^^ d / 2 := Nat.xor_div_two
    have e2 : (c ^^^ d) % 2 = (c + d) % 2 := xor_mod2 _ _
    simp only [gmF, e1, ih, mx_xor h (gmF_lt h ha _ _) (gmF_lt h ha _ _), e2]
    rcases Nat.mod_two_eq_zero_or_one c with hc | hc <;> rcases Nat.mod_two_eq_zero_or_one d with hd | hd <;>
      simp [hc, hd, Nat.add_mod, Nat.xor_assoc, Nat.xor_comm, xor_lc, xor_cl]

theorem gmF_left (h : IsGF p m) {a b : Nat} (ha : a < 2 ^ m) (hb : b < 2 ^ m) (k c : Nat) : gmF p m (a ^^^ b) k c = gmF p m a k c ^^^ gmF p m b k c := by
  induction k generalizing c with
  | zero => simp [gmF]
  | succ k ih =>
    simp only [gmF, ih, mx_xor h (gmF_lt h ha _ _) (gmF_lt h hb _ _)]
    split <;> simp [Nat.xor_assoc, Nat.xor_comm, xor_lc, xor_cl]

theorem gmF_zero (p m a k : Nat) : gmF p m a k 0 = 0 := by
  induction k with
  | zero => rfl
  | succ k ih => simp [gmF, ih, mx_zero]
theorem gmF_of_zero (p m k c : Nat) : gmF p m 0 k c = 0 := by
  induction k generalizing c with
  | zero => rfl
  | succ k ih => simp [gmF, ih, mx_zero]

theorem gmF_fuel (p m a : Nat) : ∀ k c, c < 2 ^ k → gmF p m a (k + 1) c = gmF p m a k c := by
  intro k
  induction k with
  | zero =>
    intro c hc
    obtain rfl : c = 0 := by simpa using hc
    exact gmF_zero p m a 1
  | succ k ih =>
    intro c hc
    have e := ih (c / 2) (by rw [Nat.pow_succ] at hc; omega)
    show mx p m (gmF p m a (k + 1) (c / 2)) ^^^ _ = mx p m (gmF p m a k (c / 2)) ^^^ _
    rw [e]

theorem add_xor {j b : Nat} (hb : b < 2 ^ j) : 2 ^ j + b = 2 ^ j ^^^ b := by
  apply Nat.eq_of_testBit_eq
  intro i
  rw [Nat.testBit_xor, Nat.testBit_two_pow]
  rcases Nat.lt_trichotomy i j with hi | hi | hi
  · rw [Nat.testBit_two_pow_add_gt hi]
    simp [show ¬ j = i by omega]
  · subst hi
    rw [Nat.testBit_two_pow_add_eq]
    simp
  · have h1 : 2 ^ j + b < 2 ^ i := Nat.lt_of_lt_of_le (show 2 ^ j + b < 2 ^ (j + 1) by rw [Nat.pow_succ]; omega) (Nat.pow_le_pow_right (by omega) (by omega))
    rw [Nat.testBit_lt_two_pow h1, Nat.testBit_lt_two_pow (show b < 2 ^ i by omega)]
    simp [show ¬ j = i by omega]

theorem zeroAt_all : ∀ k, zeroAt p m k = true → ∀ j, j < k → gmF p m (2 ^ j) (m + 1) p = 0 := by
  intro k
  induction k with
  | zero => intro _ j hj; omega
  | succ k ih =>
    intro hz j hj
    simp only [zeroAt, Bool.and_eq_true, beq_iff_eq] at hz
    rcases Nat.lt_or_ge j k with h1 | h1
    · exact ih hz.2 j h1
    · rw [show j = k from by omega]; exact hz.1

/-- The primitive polynomial is zero at the unknown. -/
theorem gm_prim (h : IsGF p m) {a : Nat} (ha : a < 2 ^ m) : gmF p m a (m + 1) p = 0 := by
  have key : ∀ j, j ≤ m → ∀ a, a < 2 ^ j → gmF p m a (m + 1) p = 0 := by
    intro j
    induction j with
    | zero =>
      intro _ a ha
      obtain rfl : a = 0 := by simpa using ha
      exact gmF_of_zero p m _ _
    | succ j ih =>
      intro hj a ha
      rcases Nat.lt_or_ge a (2 ^ j) with h1 | h1
      · exact ih (by omega) a h1
      · have hb : a - 2 ^ j < 2 ^ j := by rw [Nat.pow_succ] at ha; omega
        have e : a = 2 ^ j ^^^ (a - 2 ^ j) := by rw [← add_xor hb]; omega
        have hjm : 2 ^ j < 2 ^ m := Nat.pow_lt_pow_right (by omega) (by omega)
        rw [e, gmF_left h hjm (by omega), zeroAt_all m h.zero j (by omega), ih (by omega) _ hb]
        rfl
  exact key m (Nat.le_refl _) a ha

theorem gm_lt (h : IsGF p m) {a : Nat} (ha : a < 2 ^ m) (b : Nat) : gm p m a b < 2 ^ m := gmF_lt h ha _ _
theorem gm_right (h : IsGF p m) {a : Nat} (ha : a < 2 ^ m) (b c : Nat) : gm p m a (b ^^^ c) = gm p m a b ^^^ gm p m a c := gmF_right h ha _ _ _

/-- Times the unknown: of the second factor, or of the product. -/
theorem gm_mx (h : IsGF p m) {a b : Nat} (ha : a < 2 ^ m) (hb : b < 2 ^ m) : gm p m a (mx p m b) = mx p m (gm p m a b) := by
  unfold gm
  rw [← gmF_fuel p m a m _ (mx_lt h hb), mx_eq h hb, gmF_right h ha]
  have e1 : gmF p m a (m + 1) (2 * b) = mx p m (gmF p m a m b) := by
    show mx p m (gmF p m a m (2 * b / 2)) ^^^ (if 2 * b % 2 = 1 then a else 0) = _
    rw [show 2 * b / 2 = b from by omega, if_neg (by omega), Nat.xor_zero]
  rw [e1]
  split
  · rw [gm_prim h ha, Nat.xor_zero]
  · rw [gmF_zero, Nat.xor_zero]

theorem gm_one (h : IsGF p m) (a : Nat) : gm p m a 1 = a := by
  unfold gm
  obtain ⟨k, hk⟩ : ∃ k, m = k + 1 := ⟨m - 1, by have := h.pos; omega⟩
  have : gmF p m a (k + 1) 1 = a := by
    show mx p m (gmF p m a k (1 / 2)) ^^^ (if 1 % 2 = 1 then a else 0) = a
    rw [show 1 / 2 = 0 from rfl, gmF_zero, mx_zero]
    simp
  rw [← hk] at this
  exact this

/-- Times the unknown, so often. -/
def it (p m a : Nat) : Nat → Nat
  | 0 => a
  | i + 1 => mx p m (it p m a i)
theorem ex_it (i : Nat) : ex p m i = it p m 1 i := by
  induction i with
  | zero => rfl
  | succ i ih => simp only [ex, it, ih]
theorem it_lt (h : IsGF p m) {a : Nat} (ha : a < 2 ^ m) (i : Nat) : it p m a i < 2 ^ m := by
  induction i with
  | zero => exact ha
  | succ i ih => exact mx_lt h ih
theorem one_lt (h : IsGF p m) : 1 < 2 ^ m := Nat.one_lt_two_pow (by have := h.pos; omega)
theorem ex_lt (h : IsGF p m) (i : Nat) : ex p m i < 2 ^ m := by rw [ex_it]; exact it_lt h (one_lt h) i
theorem it_add (a i j : Nat) : it p m (it p m a i) j = it p m a (i + j) := by
  induction j with
  | zero => rfl
  | succ j ih => show mx p m (it p m (it p m a i) j) = mx p m (it p m a (i + j)); rw [ih]
theorem gm_ex (h : IsGF p m) {a : Nat} (ha : a < 2 ^ m) (j : Nat) : gm p m a (ex p m j) = it p m a j := by
  induction j with
  | zero => exact gm_one h a
  | succ j ih => simp only [ex, it, gm_mx h ha (ex_lt h j), ih]
theorem gm_exex (h : IsGF p m) (i j : Nat) : gm p m (ex p m i) (ex p m j) = ex p m (i + j) := by
  rw [gm_ex h (ex_lt h i), ex_it, ex_it, it_add]
theorem exAt_it (k : Nat) : ∀ x, exAt p m k x = it p m x k := by
  induction k with
  | zero => intro x; rfl
  | succ k ih =>
    intro x
    simp only [exAt, ih]
    have := it_add (p := p) (m := m) x 1 k
    rw [Nat.add_comm 1 k] at this
    exact this
theorem ex_round (h : IsGF p m) : ex p m (2 ^ m - 1) = 1 := by
  rw [ex_it, ← exAt_it]; exact h.round
theorem ex_add_round (h : IsGF p m) (i : Nat) : ex p m (i + (2 ^ m - 1)) = ex p m i := by
  rw [Nat.add_comm, ex_it, ← it_add, ← ex_it, ex_round h, ex_it]
theorem ex_mod (h : IsGF p m) (i : Nat) : ex p m (i % (2 ^ m - 1)) = ex p m i := by
  have key : ∀ k r, ex p m (r + k * (2 ^ m - 1)) = ex p m r := by
    intro k
    induction k with
    | zero => intro r; simp
    | succ k ih => intro r; rw [Nat.succ_mul, ← Nat.add_assoc, ex_add_round h, ih]
  have := key (i / (2 ^ m - 1)) (i % (2 ^ m - 1))
  rw [Nat.mul_comm, Nat.mod_add_div] at this
  exact this.symm

theorem maskTo_bit (a : Nat) : ∀ k x acc, (maskTo p m k x acc).testBit a = true → acc.testBit a = true ∨ ∃ i, i < k ∧ it p m x i = a := by
  intro k
  induction k with
  | zero => intro x acc h; exact .inl h
  | succ k ih =>
    intro x acc h
    rcases ih _ _ h with h1 | ⟨i, hi, h1⟩
    · rw [Nat.testBit_or, Bool.or_eq_true] at h1
      rcases h1 with h1 | h1
      · exact .inl h1
      · rw [Nat.one_shiftLeft, Nat.testBit_two_pow] at h1
        exact .inr ⟨0, by omega, by simpa [it] using h1⟩
    · refine .inr ⟨i + 1, by omega, ?_⟩
      rw [← h1]
      have := it_add (p := p) (m := m) x 1 i
      rw [Nat.add_comm 1 i] at this
      exact this.symm

/-- Each element but 0 is a power of the unknown. -/
theorem ex_surj (h : IsGF p m) {a : Nat} (h0 : 0 < a) (ha : a < 2 ^ m) : ∃ i, i < 2 ^ m - 1 ∧ ex p m i = a := by
  have hb : (maskTo p m (2 ^ m - 1) 1 0).testBit a = true := by
    rw [h.mask, Nat.testBit_two_pow_sub_succ (by exact Nat.one_lt_two_pow (by have := one_lt h; omega))]
    have : Nat.testBit 1 a = false := by
      rw [show (1 : Nat) = 2 ^ 0 from rfl, Nat.testBit_two_pow]; simp; omega
    simp [ha, this]
  rcases maskTo_bit a _ _ _ hb with h1 | ⟨i, hi, h1⟩
  · simp at h1
  · exact ⟨i, hi, by rw [ex_it]; exact h1⟩

theorem mx_eq_zero (h : IsGF p m) {w : Nat} (hw : mx p m w = 0) : w = 0 := by
  unfold mx at hw
  split at hw
  · have : 2 * w = p := xor_zero_iff hw
    have := h.odd
    omega
  · omega
theorem mx_inj (h : IsGF p m) {u v : Nat} (hu : u < 2 ^ m) (hv : v < 2 ^ m) (he : mx p m u = mx p m v) : u = v := by
  have e : mx p m (u ^^^ v) = 0 := by rw [mx_xor h hu hv, he, Nat.xor_self]
  exact xor_zero_iff (mx_eq_zero h e)
theorem it_inj (h : IsGF p m) {u v : Nat} (hu : u < 2 ^ m) (hv : v < 2 ^ m) (i : Nat) (he : it p m u i = it p m v i) : u = v := by
  induction i with
  | zero => exact he
  | succ i ih => exact ih (mx_inj h (it_lt h hu i) (it_lt h hv i) he)
theorem noOne_all : ∀ k x, noOne p m k x = true → ∀ i, i < k → it p m x i ≠ 1 := by
  intro k
  induction k with
  | zero => intro x _ i hi; omega
  | succ k ih =>
    intro x hx i hi
    simp only [noOne, Bool.and_eq_true, bne_iff_ne] at hx
    rcases i with _ | i
    · exact hx.1
    · have := ih _ hx.2 i (by omega)
      have e := it_add (p := p) (m := m) x 1 i
      rw [Nat.add_comm 1 i] at e
      rw [← e]
      exact this
theorem ex_ne_one (h : IsGF p m) {i : Nat} (h0 : 0 < i) (hi : i < 2 ^ m - 1) : ex p m i ≠ 1 := by
  have := noOne_all _ _ h.ones (i - 1) (by omega)
  have e := it_add (p := p) (m := m) 1 1 (i - 1)
  rw [show 1 + (i - 1) = i from by omega] at e
  rw [ex_it, ← e]
  exact this
theorem ex_inj (h : IsGF p m) {i j : Nat} (hi : i < 2 ^ m - 1) (hj : j < 2 ^ m - 1) (he : ex p m i = ex p m j) : i = j := by
  have key : ∀ i j, i < j → j < 2 ^ m - 1 → ex p m i ≠ ex p m j := by
    intro i j hij hj he
    have e := it_add (p := p) (m := m) 1 (j - i) i
    rw [show j - i + i = j from by omega] at e
    rw [ex_it, ex_it, ← e] at he
    have := it_inj h (one_lt h) (it_lt h (one_lt h) _) i he
    exact ex_ne_one h (i := j - i) (by omega) (by omega) (by rw [ex_it]; exact this.symm)
  rcases Nat.lt_trichotomy i j with h1 | h1 | h1
  · exact absurd he (key i j h1 hj)
  · exact h1
  · exact absurd he.symm (key j i h1 hi)
theorem ex_pos (h : IsGF p m) (i : Nat) : 0 < ex p m i := by
  induction i with
  | zero => exact Nat.one_pos
  | succ i ih =>
    rcases Nat.eq_zero_or_pos (ex p m (i + 1)) with h0 | h0
    · have := mx_eq_zero h (show mx p m (ex p m i) = 0 from h0); omega
    · exact h0

theorem gm_zero (a : Nat) : gm p m a 0 = 0 := gmF_zero p m a m
theorem zero_gm (b : Nat) : gm p m 0 b = 0 := gmF_of_zero p m m b
theorem gm_comm (h : IsGF p m) {a b : Nat} (ha : a < 2 ^ m) (hb : b < 2 ^ m) : gm p m a b = gm p m b a := by
  rcases Nat.eq_zero_or_pos a with h0 | h0
  · rw [h0, zero_gm, gm_zero]
  rcases Nat.eq_zero_or_pos b with h1 | h1
  · rw [h1, zero_gm, gm_zero]
  obtain ⟨i, _, rfl⟩ := ex_surj h h0 ha
  obtain ⟨j, _, rfl⟩ := ex_surj h h1 hb
  rw [gm_exex h, gm_exex h, Nat.add_comm]
theorem gm_assoc (h : IsGF p m) {a b c : Nat} (ha : a < 2 ^ m) (hb : b < 2 ^ m) (hc : c < 2 ^ m) : gm p m (gm p m a b) c = gm p m a (gm p m b c) := by
  rcases Nat.eq_zero_or_pos a with h0 | h0
  · rw [h0, zero_gm, zero_gm, zero_gm]
  rcases Nat.eq_zero_or_pos b with h1 | h1
  · rw [h1, gm_zero, zero_gm, gm_zero]
  rcases Nat.eq_zero_or_pos c with h2 | h2
  · rw [h2, gm_zero, gm_zero, gm_zero]
  obtain ⟨i, _, rfl⟩ := ex_surj h h0 ha
  obtain ⟨j, _, rfl⟩ := ex_surj h h1 hb
  obtain ⟨k, _, rfl⟩ := ex_surj h h2 hc
  rw [gm_exex h, gm_exex h, gm_exex h, gm_exex h, Nat.add_assoc]
theorem gm_left (h : IsGF p m) {a b c : Nat} (ha : a < 2 ^ m) (hb : b < 2 ^ m) : gm p m (a ^^^ b) c = gm p m a c ^^^ gm p m b c := gmF_left h ha hb _ _
theorem one_gm (h : IsGF p m) {a : Nat} (ha : a < 2 ^ m) : gm p m 1 a = a := by rw [gm_comm h (one_lt h) ha, gm_one h]
/-- A product is zero where a factor is. -/
theorem gm_eq_zero (h : IsGF p m) {a b : Nat} (ha : a < 2 ^ m) (hb : b < 2 ^ m) (he : gm p m a b = 0) : a = 0 ∨ b = 0 := by
  rcases Nat.eq_zero_or_pos a with h0 | h0
  · exact .inl h0
  rcases Nat.eq_zero_or_pos b with h1 | h1
  · exact .inr h1
  obtain ⟨i, _, rfl⟩ := ex_surj h h0 ha
  obtain ⟨j, _, rfl⟩ := ex_surj h h1 hb
  rw [gm_exex h] at he
  have := ex_pos h (i + j)
  omega
end
end
/- The value of a polynomial: by Horner's rule, and as the sum of its terms. No program. -/
section
set_option linter.unusedSimpArgs false
set_option linter.unusedVariables false

/-- All are elements of the field. -/
def AllIn (m : Nat) (l : List Nat) : Prop := ∀ x ∈ l, x < 2 ^ m

/-- Horner's rule over the first k coefficients. -/
def hornTo (p m x : Nat) (l : List Nat) : Nat → Nat
  | 0 => 0
  | k + 1 => gm p m x (hornTo p m x l k) ^^^ l.getD k 0
def valAt (p m x : Nat) (l : List Nat) : Nat := hornTo p m x l l.length
/-- The powers of an element. -/
def powTo (p m x : Nat) : Nat → Nat
  | 0 => 1
  | k + 1 => gm p m (powTo p m x k) x
/-- The sum of the last t terms. -/
def sumTo (p m x : Nat) (l : List Nat) : Nat → Nat
  | 0 => 0
  | t + 1 => sumTo p m x l t ^^^ gm p m (l.getD (l.length - 1 - t) 0) (powTo p m x t)

section
variable {p m : Nat}
theorem getD_lt (h : IsGF p m) {l : List Nat} (hl : AllIn m l) (k : Nat) : l.getD k 0 < 2 ^ m := by
  rw [List.getD]
  cases hk : l[k]? with
  | none => simp; exact Nat.two_pow_pos m
  | some v => simp; exact hl v (List.mem_of_getElem? hk)
theorem hornTo_lt (h : IsGF p m) {l : List Nat} (hl : AllIn m l) {x : Nat} (hx : x < 2 ^ m) (k : Nat) : hornTo p m x l k < 2 ^ m := by
  cases k with
  | zero => exact Nat.two_pow_pos m
  | succ k => exact Nat.xor_lt_two_pow (gm_lt h hx _) (getD_lt h hl k)
theorem powTo_lt (h : IsGF p m) {x : Nat} (k : Nat) : powTo p m x k < 2 ^ m := by
  induction k with
  | zero => exact one_lt h
  | succ k ih => exact gm_lt h ih x
theorem sumTo_lt (h : IsGF p m) {l : List Nat} (hl : AllIn m l) {x : Nat} (t : Nat) : sumTo p m x l t < 2 ^ m := by
  induction t with
  | zero => exact Nat.two_pow_pos m
  | succ t ih => exact Nat.xor_lt_two_pow ih (gm_lt h (getD_lt h hl _) _)

/-- A prefix's value, and the terms that come ahead. -/
theorem horn_sum (h : IsGF p m) {l : List Nat} (hl : AllIn m l) {x : Nat} (hx : x < 2 ^ m) (t : Nat) (ht : t ≤ l.length) :
    valAt p m x l = gm p m (hornTo p m x l (l.length - t)) (powTo p m x t) ^^^ sumTo p m x l t := by
  induction t with
  | zero => simp [valAt, powTo, sumTo, gm_one h]
  | succ t ih =>
    rw [ih (by omega)]
    obtain ⟨k, hk⟩ : ∃ k, l.length - t = k + 1 := ⟨l.length - t - 1, by omega⟩
    rw [hk, show l.length - (t + 1) = k from by omega]
    simp only [hornTo, powTo, sumTo]
    rw [show l.length - 1 - t = k from by omega]
    have e1 : gm p m (gm p m x (hornTo p m x l k) ^^^ l.getD k 0) (powTo p m x t) = gm p m (gm p m x (hornTo p m x l k)) (powTo p m x t) ^^^ gm p m (l.getD k 0) (powTo p m x t) :=
      gm_left h (gm_lt h hx _) (getD_lt h hl k)
    have e2 : gm p m (gm p m x (hornTo p m x l k)) (powTo p m x t) = gm p m (hornTo p m x l k) (gm p m (powTo p m x t) x) := by
      rw [gm_comm h hx (hornTo_lt h hl hx k), gm_assoc h (hornTo_lt h hl hx k) hx (powTo_lt h t), gm_comm h hx (powTo_lt h t)]
    rw [e1, e2]
    simp only [Nat.xor_assoc, Nat.xor_comm, xor_lc]
theorem val_sum (h : IsGF p m) {l : List Nat} (hl : AllIn m l) {x : Nat} (hx : x < 2 ^ m) : sumTo p m x l l.length = valAt p m x l := by
  rw [horn_sum h hl hx l.length (Nat.le_refl _), Nat.sub_self]
  simp [hornTo, zero_gm]
/-- At 0: the last coefficient. -/
theorem val_zero (p m : Nat) (l : List Nat) (h1 : 1 ≤ l.length) : valAt p m 0 l = l.getD (l.length - 1) 0 := by
  unfold valAt
  obtain ⟨k, hk⟩ : ∃ k, l.length = k + 1 := ⟨l.length - 1, by omega⟩
  rw [hk, show k + 1 - 1 = k from rfl]
  simp [hornTo, zero_gm]
/-- At 1: the sum of the coefficients. -/
theorem horn_one (h : IsGF p m) {l : List Nat} (hl : AllIn m l) (k : Nat) : hornTo p m 1 l (k + 1) = hornTo p m 1 l k ^^^ l.getD k 0 := by
  simp only [hornTo]
  rw [one_gm h (hornTo_lt h hl (one_lt h) k)]
/-- The first coefficient. -/
theorem horn_first (p m x : Nat) (l : List Nat) : hornTo p m x l 1 = l.getD 0 0 := by simp [hornTo, gm_zero]
end
end
/- A law: append of so many zeros to a slice that the call owns. -/
section
open Go.RowKit
set_option linter.unusedVariables false
set_option linter.unusedSimpArgs false

theorem zeroCells_toList (z : Value) (n : Nat) : (Builtin.zeroCells #[z] n).toList = List.replicate n z := by
  apply List.ext_getElem
  · simp [Builtin.zeroCells]
  · intro i h1 h2
    simp [Builtin.zeroCells, Nat.mod_one]
theorem zeroCells_arr (z : Value) (n : Nat) : Builtin.zeroCells #[z] n = (List.replicate n z).toArray := by
  apply Array.ext'
  rw [zeroCells_toList]

section
variable {P : Program} (w : World)
theorem wrap_nat (m : Nat) (hm2 : m ≤ 1000000000) : IntKind.i64.wrap (m : Int) = m := IntWalk.i64_in _ ⟨by omega, by omega⟩
theorem small_bytes (m b : Nat) (hm : m * b ≤ 281474976710656) : ¬ (281474976710656 < (m : Int) * (b : Int)) := by
  have : ((m * b : Nat) : Int) ≤ 281474976710656 := by omega
  rw [Int.natCast_mul] at this
  omega
theorem wrap_0 : IntKind.i64.wrap 0 = 0 := IntWalk.i64_in _ ⟨by omega, by omega⟩

theorem run_appz_room (t u ty e : TypeId) (i : TypeInfo) (z : Value) (ku : IntKind) (ht : P.underlying t = some (.slice e)) (hu : P.underlying u = some (.int ku)) (hi : P.info? e = some i) (hz : i.zero = some z) (hzc : z.cells = #[z])
    (hsize : i.size = 1) (hz1 : z.oneCell' = true) (g sLen sCap : Nat) (cur : Array Value) (hg : w.heap[g]? = some (.cells cur e (0, 0))) (m : Nat) (hm : m * i.bytes ≤ 281474976710656) (hm2 : m ≤ 1000000000)
    (hroom : sLen + m ≤ sCap) (hfit : sLen + m ≤ cur.size) :
    (Builtin.append_ #[t, u] ty #[.slice (some ⟨g, 0, none⟩) sLen sCap, .int .i64 m]).run P w =
      .ok (.slice (some ⟨g, 0, none⟩) (sLen + m) sCap) (w.setRow g (cur.toList.take sLen ++ List.replicate m z ++ cur.toList.drop (sLen + m)).toArray) := by
  have hw := wrap_nat m hm2
  have h1 : ∀ u ∈ List.replicate m z, u.oneCell' = true := by
    intro u hu
    rw [(List.mem_replicate.1 hu).2]; exact hz1
  have hst := run_storeCells_at P g sLen e (List.replicate m z) 0 cur w hg (by simpa using hfit) h1
  simp only [Nat.add_zero, List.length_replicate] at hst
  have hb := small_bytes m i.bytes hm
  rcases Nat.eq_zero_or_pos m with h0 | h0
  · subst h0
    have hro : sLen ≤ sCap := by omega
    simp [Builtin.append_, run_underlying ht, run_underlying hu, sizeOf, typeInfo, zeroValue, asInt, asIntOf, hi, hz, hsize, wrap_0, Addr.add_lit, hro] at hst ⊢
    rw [hst]
    rfl
  · have hm0 : m ≠ 0 := by omega
    simp [Builtin.append_, run_underlying ht, run_underlying hu, sizeOf, typeInfo, zeroValue, asInt, asIntOf, hi, hz, hsize, hw, hb, hroom, hm0, Addr.add_lit, hzc, zeroCells_toList, hst]
    intro h; omega

theorem run_appz_nil (t u ty e : TypeId) (i : TypeInfo) (z : Value) (ku : IntKind) (ht : P.underlying t = some (.slice e)) (hu : P.underlying u = some (.int ku)) (hi : P.info? e = some i) (hz : i.zero = some z) (hzc : z.cells = #[z])
    (hsize : i.size = 1) (m : Nat) (h0 : 0 < m) (hm : m * i.bytes ≤ 140737488355328) (hm2 : m ≤ 1000000000) :
    (Builtin.append_ #[t, u] ty #[.slice none 0 0, .int .i64 m]).run P w =
      .ok (.slice (some ⟨w.heap.size, 0, none⟩) m (grownCap w m 0 e)) (w.drew.alloc (.cells ((List.replicate m z).toArray ++ Builtin.zeroCells z.cells (grownCap w m 0 e - m)) e)) := by
  have hw := wrap_nat m hm2
  have hb := small_bytes m i.bytes (by omega)
  have hm0 : m ≠ 0 := by omega
  have h63' : ¬ (9223372036854775807 < (m : Int)) := by omega
  have h48' : ¬ (281474976710656 < Builtin.nextslicecap m 0 * i.bytes) := by rw [nextslicecap_zero h0]; omega
  simp [Builtin.append_, run_underlying ht, run_underlying hu, sizeOf, typeInfo, zeroValue, asInt, asIntOf, hi, hz, hsize, hw, hb, hm0, hzc, zeroCells_arr, h63', h48', Question.forced, run_firstCells_none, newRow, grownCap]
  intro h; omega

theorem run_appz_grow (t u ty e : TypeId) (i : TypeInfo) (z : Value) (ku : IntKind) (ht : P.underlying t = some (.slice e)) (hu : P.underlying u = some (.int ku)) (hi : P.info? e = some i) (hz : i.zero = some z) (hzc : z.cells = #[z])
    (hsize : i.size = 1) (b : Addr) (sLen sCap : Nat) (olds : List Value) (hlo : olds.length = sLen) (holds : ∀ j v, olds[j]? = some v → w.cell? (b.add j) = some v)
    (m : Nat) (h0 : 0 < m) (hm : (sLen + m) * i.bytes ≤ 140737488355328) (hm2 : sLen + m ≤ 1000000000) (hgr : sCap < sLen + m) :
    (Builtin.append_ #[t, u] ty #[.slice (some b) sLen sCap, .int .i64 m]).run P w =
      .ok (.slice (some ⟨w.heap.size, 0, none⟩) (sLen + m) (grownCap w (sLen + m) sCap e)) (w.drew.alloc (.cells (olds.toArray ++ (List.replicate m z).toArray ++ Builtin.zeroCells z.cells (grownCap w (sLen + m) sCap e - (sLen + m))) e)) := by
  have hw := wrap_nat m (by omega)
  have hb := small_bytes m i.bytes (Nat.le_trans (Nat.mul_le_mul_right _ (show m ≤ sLen + m by omega)) (by omega))
  have hm0 : m ≠ 0 := by omega
  have hn : ¬ (sLen + m ≤ sCap) := by omega
  have h63' : ¬ (9223372036854775807 < ((sLen : Int) + (m : Int))) := by omega
  have h48' : ¬ (281474976710656 < Builtin.nextslicecap (sLen + m) sCap * i.bytes) := by have := growslice_fits hgr hm; omega
  have hfo := run_firstCells_some (P := P) w.drew 1 sLen b sLen sCap olds (by omega) (by simpa using holds)
  simp [Builtin.append_, run_underlying ht, run_underlying hu, sizeOf, typeInfo, zeroValue, asInt, asIntOf, hi, hz, hsize, hw, hb, hn, hm0, hzc, zeroCells_arr, h63', h48', Question.forced, hfo, newRow, grownCap]
  intro h; omega

/-- append of m zeros onto a slice that the call owns (or nil), of elements of one cell. -/
theorem run_appz (B : Nat) (t u ty e : TypeId) (i : TypeInfo) (z : Value) (ku : IntKind) (bytes : Nat) (ht : P.underlying t = some (.slice e)) (hu : P.underlying u = some (.int ku)) (hi : P.info? e = some i) (hz : i.zero = some z)
    (hsize : i.size = 1) (hby : i.bytes = bytes) (hzc : z.cells = #[z]) (hz1 : z.oneCell' = true) (v : Value) (xs : List Value) (hown : Own w B e v xs)
    (m : Nat) (h63 : xs.length + m ≤ 1000000000) (hbytes : (xs.length + m) * bytes ≤ 140737488355328) (hB : B ≤ w.heap.size) :
    ∃ v' w', (Builtin.append_ #[t, u] ty #[v, .int .i64 m]).run P w = .ok v' w' ∧ Own w' B e v' (xs ++ List.replicate m z) ∧ w.grownBy w' v.ownBlock ∧
      (v'.ownBlock = v.ownBlock ∨ v'.ownBlock = some w.heap.size) := by
  subst hby
  have hlen : (xs ++ List.replicate m z).length = xs.length + m := by simp
  have grown : ∀ (old : Nat), old < xs.length + m → ∀ (row : Option Nat),
      (w.drew.alloc (.cells (xs.toArray ++ (List.replicate m z).toArray ++ Builtin.zeroCells z.cells (grownCap w (xs.length + m) old e - (xs.length + m))) e)).ownsRow B e 1
        (.slice (some ⟨w.heap.size, 0, none⟩) (xs.length + m) (grownCap w (xs.length + m) old e)) (xs.length + m) (xs ++ List.replicate m z) ∧
      w.grownBy (w.drew.alloc (.cells (xs.toArray ++ (List.replicate m z).toArray ++ Builtin.zeroCells z.cells (grownCap w (xs.length + m) old e - (xs.length + m))) e)) row := by
    intro old ho row
    have hge := grownCap_ge w (xs.length + m) old e
    have hcm : grownCap w (xs.length + m) old e ≤ maxLen := grownCap_le_maxLen w (xs.length + m) old e (by simp only [maxLen]; omega)
    refine ⟨⟨by simp, .inr ⟨w.heap.size, _, _, rfl, hB, heap_alloc_new w.drew _, hge, hcm, ?_, ?_⟩⟩, ⟨rfl, rfl, rfl, by simp, fun k hk _ => Below.heap_alloc w.drew _ k hk⟩⟩
    · simp [size_zeroCells, hzc]; omega
    · simp only [Array.toList_append, List.append_assoc]
      rw [← List.append_assoc, Nat.mul_one, ← hlen]
      exact List.take_left
  unfold Own
  rw [hlen]
  rcases hown.2 with ⟨rfl, hx⟩ | ⟨g, cap, cur, rfl, hbg, hg, hnc, hcm, hcs, htake⟩
  · have hx : xs = [] := List.eq_nil_of_length_eq_zero hx
    subst hx
    by_cases hm : m = 0
    · subst hm
      refine ⟨.slice none 0 0, w, ?_, World.ownsRow_nil w B e 1, ⟨rfl, rfl, rfl, Nat.le_refl _, fun _ _ _ => rfl⟩, Or.inl rfl⟩
      simp [Builtin.append_, run_underlying ht, run_underlying hu, sizeOf, typeInfo, hi, wrap_0, asInt, asIntOf]
    · have hr := run_appz_nil (P := P) w t u ty e i z ku ht hu hi hz hzc hsize m (by omega) (by simpa using hbytes) (by simpa using h63)
      have hgr := grown 0 (by simp; omega) (Value.ownBlock (.slice none 0 0))
      simp only [List.length_nil, Nat.zero_add, List.nil_append, Array.empty_append] at hgr ⊢
      exact ⟨_, _, hr, hgr.1, hgr.2, Or.inr rfl⟩
  · by_cases hroom : xs.length + m ≤ cap
    · have hr := run_appz_room (P := P) w t u ty e i z ku ht hu hi hz hzc hsize hz1 g xs.length cap cur hg m (Nat.le_trans (Nat.mul_le_mul_right _ (show m ≤ xs.length + m by omega)) (by omega)) (by omega) hroom (by omega)
      refine ⟨_, _, hr, ⟨by simp, .inr ⟨g, cap, _, rfl, hbg, setRow_heap w g cur _ e _ hg, hroom, hcm, ?_, ?_⟩⟩, ⟨rfl, rfl, rfl, by simp, fun k _ hk => setRow_other w g k _ (fun e => hk (by simp [Value.ownBlock, e]))⟩, Or.inl rfl⟩
      · simp; omega
      · rw [Nat.mul_one] at htake
        rw [htake, Nat.mul_one, ← hlen]
        exact List.take_left
    · have holds : ∀ j u, xs[j]? = some u → w.cell? ((⟨g, 0, none⟩ : Addr).add j) = some u := hown.cells (g := g) rfl
      have hr := run_appz_grow (P := P) w t u ty e i z ku ht hu hi hz hzc hsize ⟨g, 0, none⟩ xs.length cap xs rfl holds m (by omega) hbytes h63 (by omega)
      have hgr := grown cap (by omega) (Value.ownBlock (.slice (some ⟨g, 0, none⟩) xs.length cap))
      exact ⟨_, _, hr, hgr.1, hgr.2, Or.inr rfl⟩
end

theorem wpList_appz {P : Program} {ops : Array Oper} {o : Oper} {a : Act} (w : World) {rest : List Oper} {Q : Exit → Act → World → Prop} (hgd : o.guard = none) (s x : Operand) (t u : TypeId)
    (ho : o.op = .call { callee := .builtin .append, args := #[s, x], argTypes := #[t, u] })
    (B : Nat) (e : TypeId) (i : TypeInfo) (z : Value) (ku : IntKind) (bytes : Nat) (ht : P.underlying t = some (.slice e)) (hu : P.underlying u = some (.int ku)) (hi : P.info? e = some i) (hz : i.zero = some z)
    (hsize : i.size = 1) (hby : i.bytes = bytes) (hzc : z.cells = #[z]) (hz1 : z.oneCell' = true) (v : Value) (xs : List Value) (hs : a.eval s = v) (hown : Own w B e v xs)
    (m : Nat) (hx : a.eval x = .int .i64 m)
    (h63 : xs.length + m ≤ 1000000000) (hbytes : (xs.length + m) * bytes ≤ 140737488355328) (hB : B ≤ w.heap.size)
    (h : ∀ v' w', Own w' B e v' (xs ++ List.replicate m z) → w.grownBy w' v.ownBlock → (v'.ownBlock = v.ownBlock ∨ v'.ownBlock = some w.heap.size) → wpList P ops Q rest (a.put o.dst v') w') : wpList P ops Q (o :: rest) a w :=
  wpList_plain hgd fun _ hK => by
    obtain ⟨v', w', hrun, h2, h3, h4⟩ := run_appz (P := P) w B t u o.type e i z ku bytes ht hu hi hz hsize hby hzc hz1 v xs hown m h63 hbytes hB
    unfold Oper.wp execOp
    simp only [ho, resolve, invoke, builtin, Sem.run_bind, Sem.run_pure, Result.andThen_ok, List.map_toArray, List.map_cons, List.map_nil, hs, hx, hrun]
    exact hK _ _ (h v' w' h2 h3 h4)
end
/- The walks of a field's polynomials and of the field itself: what the package makes. -/
section
open Go.RowKit
set_option linter.unusedVariables false

/-- Numbers as the cells of a list of ints. -/
def ints (l : List Nat) : List Value := l.map fun x => .int .i64 (x : Nat)
theorem ints_length (l : List Nat) : (ints l).length = l.length := by simp [ints]
theorem ints_one (l : List Nat) : ∀ u ∈ ints l, u.oneCell' = true := by
  intro u hu
  obtain ⟨b, _, rfl⟩ := List.mem_map.1 hu
  rfl
theorem rd_int {w : World} {A : Option Addr} {n : Nat} {l : List Nat} (h : Rd w A n (ints l)) (k : Nat) (hk : k < n) :
    ∃ b o, A = some ⟨b, o, none⟩ ∧ b < w.heap.size ∧ w.cell? ⟨b, o + k, none⟩ = some (.int .i64 (l.getD k 0 : Nat)) := by
  obtain ⟨b, o, hA, hb, hc⟩ := h.2 (by omega)
  have hl : l.length = n := by have := h.1; simpa [ints] using this
  refine ⟨b, o, hA, hb, ?_⟩
  rw [hc k (by rw [ints_length]; omega)]
  simp [ints, List.getD, List.getElem?_eq_getElem (show k < l.length by omega)]

/-- A list of coefficients without zeros ahead. -/
def tidy : List Nat → List Nat
  | [] => [0]
  | [a] => [a]
  | 0 :: b :: l => tidy (b :: l)
  | l => l

section
variable {w w' : World} {B q : Nat} {F : Value} {l : List Nat}
theorem Rd.far {A : Option Addr} {n : Nat} {xs : List Value} (h : Rd w A n xs) {B : Nat} (hA : ∀ a, A = some a → B ≤ a.block) {p : Addr} (hp : p.block < B) (v : Value) : Rd (w.setCell p v) A n xs := by
  refine ⟨h.1, fun hn => ?_⟩
  obtain ⟨b, o, rfl, hb, hc⟩ := h.2 hn
  have := hA _ rfl
  refine ⟨b, o, rfl, by simpa using hb, fun k hk => ?_⟩
  rw [World.cell?_setCell_other w p _ v (fun e => by subst e; simp at this hp; omega)]
  exact hc k hk
end

theorem tidy_first {l : List Nat} (h : l.getD 0 0 ≠ 0 ∨ l.length = 1) (h1 : 1 ≤ l.length) : tidy l = l := by
  match l, h1 with
  | [a], _ => rfl
  | 0 :: b :: l, _ => simp at h
  | (a + 1) :: b :: l, _ => rfl
theorem tidy_drop (l : List Nat) : ∀ k, k < l.length → (∀ j, j < k → l.getD j 0 = 0) → tidy l = tidy (l.drop k) := by
  intro k
  induction k with
  | zero => intro _ _; simp
  | succ k ih =>
    intro hk hz
    rw [ih (by omega) (fun j hj => hz j (by omega))]
    have e1 : l.drop k = 0 :: l.drop (k + 1) := by
      rw [List.drop_eq_getElem_cons (by omega : k < l.length)]
      have := hz k (by omega)
      rw [List.getD, List.getElem?_eq_getElem (by omega)] at this
      simp at this
      rw [this]
    obtain ⟨b, r, e2⟩ : ∃ b r, l.drop (k + 1) = b :: r := ⟨_, _, List.drop_eq_getElem_cons hk⟩
    rw [e1, e2]
    rfl
theorem tidy_zeros (l : List Nat) (h1 : 1 ≤ l.length) (hz : ∀ j, j < l.length → l.getD j 0 = 0) : tidy l = [0] := by
  rw [tidy_drop l (l.length - 1) (by omega) (fun j hj => hz j (by omega))]
  have e : l.drop (l.length - 1) = [l.getD (l.length - 1) 0] := by
    rw [List.drop_eq_getElem_cons (by omega : l.length - 1 < l.length), List.drop_eq_nil_of_le (by omega)]
    simp [List.getD, List.getElem?_eq_getElem (show l.length - 1 < l.length by omega)]
  rw [e, hz _ (by omega)]
  rfl

theorem getD_drop0 (l : List Nat) (k : Nat) : (l.drop k).getD 0 0 = l.getD k 0 := by simp [List.getD]
theorem Rd.drop {w : World} {b o n : Nat} {l : List Value} (h : Rd w (some ⟨b, o, none⟩) n l) (k : Nat) (hk : k ≤ n) : Rd w (some ⟨b, o + k, none⟩) (n - k) (l.drop k) := by
  refine ⟨by rw [List.length_drop, h.1], fun hn => ?_⟩
  obtain ⟨b', o', he, hb, hc⟩ := h.2 (by omega)
  cases he
  refine ⟨b, o + k, rfl, hb, fun j hj => ?_⟩
  rw [List.length_drop] at hj
  rw [Nat.add_assoc, hc (k + j) (by omega), List.getElem_drop]

end
/- The walk that makes a field: its tables of powers and of logarithms. -/
section
open Go.RowKit
set_option linter.unusedVariables false

theorem info3 : (Tryz.prog.info? 3).map (fun i => (i.zero, i.size, i.bytes)) = some (some (.int .i64 0), 1, 8) := by kernel_rfl

/-- The table of powers, of which the first k are laid. -/
def expTo (p m k : Nat) : List Nat := (List.range (2 ^ m)).map fun i => if i < k then ex p m i else 0
/-- The table of logarithms, of which the first k are laid. -/
def logTo (p m : Nat) : Nat → List Nat
  | 0 => List.replicate (2 ^ m) 0
  | k + 1 => (logTo p m k).set (ex p m k) k

section
variable {p m : Nat}
theorem expTo_length (k : Nat) : (expTo p m k).length = 2 ^ m := by simp [expTo]
theorem expTo_zero : expTo p m 0 = List.replicate (2 ^ m) 0 := by
  apply List.ext_getElem <;> simp [expTo]
theorem expTo_step (k : Nat) : (expTo p m k).set k (ex p m k) = expTo p m (k + 1) := by
  apply List.ext_getElem
  · simp [expTo]
  · intro j h1 h2
    rw [List.getElem_set]
    simp only [expTo, List.getElem_map, List.getElem_range]
    by_cases h : k = j
    · subst h; simp
    · rw [if_neg h]
      by_cases h3 : j < k
      · rw [if_pos h3, if_pos (by omega)]
      · rw [if_neg h3, if_neg (by omega)]
theorem expTo_getD (k i : Nat) (hi : i < k) (h : i < 2 ^ m) : (expTo p m k).getD i 0 = ex p m i := by
  simp [expTo, List.getD, h, hi]
theorem logTo_length (k : Nat) : (logTo p m k).length = 2 ^ m := by
  induction k with
  | zero => simp [logTo]
  | succ k ih => simp [logTo, ih]
theorem logTo_le (k j : Nat) : (logTo p m k).getD j 0 ≤ k := by
  induction k with
  | zero => simp [logTo, List.getD, List.getElem?_replicate]; split <;> simp
  | succ k ih =>
    simp only [logTo, List.getD, List.getElem?_set] at ih ⊢
    split
    · split <;> simp
    · omega
theorem logTo_ex (h : IsGF p m) (k : Nat) (hk : k ≤ 2 ^ m - 1) : ∀ i, i < k → (logTo p m k).getD (ex p m i) 0 = i := by
  induction k with
  | zero => intro i hi; omega
  | succ k ih =>
    intro i hi
    simp only [logTo, List.getD, List.getElem?_set]
    by_cases he : ex p m k = ex p m i
    · have : k = i := ex_inj h (by omega) (by omega) he
      subst this
      have := ex_lt h k
      simp [logTo_length, this]
    · rw [if_neg he]
      have hne : i ≠ k := fun e => he (by rw [e])
      exact ih (by omega) i (by omega)
end

def fieldPtr (g : Nat) : Value := .pointer (some ⟨g, 0, none⟩)
end
/- The walk of a product in a field, by its tables, and of the reference's product. -/
section
open Go.RowKit
set_option linter.unusedVariables false

/-- A value is handed back; the world has drawn, no more. -/
def DrewOut (v : Value) (w : World) (e : Ending) (w' : World) : Prop := e = .returned v ∧ ∃ n, w' = w.drewN n

end
/- The walk of RSField: the six fields. -/
section
open Go.RowKit
set_option linter.unusedVariables false

/-- The six fields. -/
def fP : Nat → Nat
  | 0 => 0x13 | 1 => 0x43 | 2 => 0x12D | 3 => 0x11D | 4 => 0x409 | _ => 0x1069
def fM : Nat → Nat
  | 0 => 4 | 1 => 6 | 2 => 8 | 3 => 8 | 4 => 10 | _ => 12
def fB : Nat → Nat
  | 3 => 0 | _ => 1
theorem fGF : ∀ k, IsGF (fP k) (fM k)
  | 0 => gf16 | 1 => gf64 | 2 => gf256a | 3 => gf256q | 4 => gf1024 | _ + 5 => gf4096
theorem fB_le : ∀ k, fB k ≤ 1
  | 0 => by decide | 1 => by decide | 2 => by decide | 3 => by decide | _ + 4 => by simp [fB]

def fieldVal (p N base : Nat) : Value := .agg #[.int .i64 p, .int .i64 N, .int .i64 base]

/-- A value is handed back; nothing that was there has turned. -/
def ValOut (v : Value) (w : World) (e : Ending) (w' : World) : Prop := e = .returned v ∧ Below w.heap.size w w'

end
/- The walks of the elements of a field and of the reference's product. -/
section
open Go.RowKit
set_option linter.unusedVariables false

/-- The number that an int says in a field of so many elements. -/
def elemOf (N : Nat) (n : Int) : Nat := (n % (N : Int)).toNat
theorem elemOf_lt (N : Nat) (n : Int) (h : 0 < N) : elemOf N n < N := by
  unfold elemOf
  have h1 := Int.emod_nonneg n (b := (N : Int)) (by omega)
  have h2 := Int.emod_lt_of_pos n (b := (N : Int)) (by omega)
  omega
theorem tmod_or (N : Nat) (n : Int) (h : 0 < N) : n.tmod N = n % (N : Int) ∨ n.tmod N = n % (N : Int) - N := by
  rw [Int.tmod_eq_emod]
  split
  · left; omega
  · right; simp
theorem elemOf_tmod (N : Nat) (n : Int) (h : 0 < N) : ((elemOf N n : Nat) : Int) = if n.tmod N < 0 then n.tmod N + N else n.tmod N := by
  unfold elemOf
  have h1 := Int.emod_nonneg n (b := (N : Int)) (by omega)
  have h2 := Int.emod_lt_of_pos n (b := (N : Int)) (by omega)
  have h3 := tmod_or N n h
  split <;> omega
theorem tmod_bd (N : Nat) (n : Int) (h : 0 < N) : -(N : Int) ≤ n.tmod N ∧ n.tmod N < N := by
  have h1 := Int.emod_nonneg n (b := (N : Int)) (by omega)
  have h2 := Int.emod_lt_of_pos n (b := (N : Int)) (by omega)
  have h3 := tmod_or N n h
  omega

theorem div_half (N k : Nat) : N / 2 ^ (k + 1) / 2 = N / 2 ^ (k + 2) := by
  rw [Nat.div_div_eq_div_mul, show k + 2 = k + 1 + 1 from rfl, Nat.pow_succ 2 (k + 1)]
theorem pow_div (m k : Nat) (h : k < m) : 2 ^ m / 2 ^ (k + 1) = 2 ^ (m - 1 - k) := by
  rw [Nat.pow_div (by omega) (by omega)]; congr 1; omega

set_option maxHeartbeats 1000000 in
theorem rsTimes (p m N base a b : Nat) (w : World) (h : IsGF p m) (hN : Hid (N = 2 ^ m)) (ha : a < N) (hb : b < N) :
    Calls Tryz.prog 79 #[fieldVal p N base, .int .i64 a, .int .i64 b] w (ValOut (.int .i64 (gm p m a b : Nat)) w) := by
  have hN1 : N ≤ 4096 := by rw [hN.out]; exact Nat.pow_le_pow_right (n := 2) (by omega) h.small
  have hN0 : 4 ≤ N := by rw [hN.out]; exact Nat.pow_le_pow_right (n := 2) (by omega) h.pos
  have hp : p < 8192 := Nat.lt_of_lt_of_le h.high (show 2 ^ (m + 1) ≤ 2 ^ 13 from Nat.pow_le_pow_right (by omega) (by have := h.small; omega))
  have H := hid h
  clear h
  unfold fieldVal
  go_enter Tryz.func79, Tryz.ntmps79
  go_wp2
  have A0 := Arr.of_new w 72 #[.int .i64 p, .int .i64 N, .int .i64 base]
  have B0 : Below w.heap.size w (w.alloc (.cells #[.int .i64 p, .int .i64 N, .int .i64 base] 72)) := (Below.refl _ _).alloc (Nat.le_refl _) _
  have c0 := A0.cell? 0
  have c1 := A0.cell? 1
  simp only at c0 c1
  generalize w.alloc (.cells #[.int .i64 p, .int .i64 N, .int .i64 base] 72) = w1 at *
  clear A0
  go_loop [7, 8] (fun out bit => ∃ k : Nat, k ≤ m ∧ bit = .int .i64 (N / 2 ^ (k + 1) : Nat) ∧ out = .int .i64 (gmF p m a k (b / 2 ^ (m - k)) : Nat)) (fun _ bit => (intOf bit).toNat)
  case atStart => exact ⟨0, by omega, by simp, by simp [gmF]⟩
  case round =>
    obtain ⟨k, hk, rfl, rfl⟩ := hrel
    have HB1 := hid (div_half N k)
    by_cases hlt : k < m
    · have HB := hid (show N / 2 ^ (k + 1) = 2 ^ (m - 1 - k) by rw [hN.out]; exact pow_div m k hlt)
      have hBpos : 0 < N / 2 ^ (k + 1) := by rw [HB.out]; exact Nat.two_pow_pos _
      have hBle : N / 2 ^ (k + 1) ≤ 4096 := Nat.le_trans (Nat.div_le_self _ _) hN1
      obtain ⟨cq, hcq⟩ : ∃ cq, cq = b / 2 ^ (m - (k + 1)) := ⟨_, rfl⟩
      have HG := hid (show gmF p m a (k + 1) cq = mx p m (gmF p m a k (b / 2 ^ (m - k))) ^^^ (if cq % 2 = 1 then a else 0) by
        have : b / 2 ^ (m - k) = cq / 2 := by rw [hcq, Nat.div_div_eq_div_mul, ← Nat.pow_succ]; congr 2; omega
        rw [this]; rfl)
      have HC := hid hcq
      have hdiv : ((b : Nat) : Int) / ((N / 2 ^ (k + 1) : Nat) : Int) = (cq : Int) := by
        rw [HB.out, hcq, show m - 1 - k = m - (k + 1) from by omega]; simp
      have hcle : cq ≤ 4096 := by rw [hcq]; exact Nat.le_trans (Nat.div_le_self _ _) (by omega)
      have hg := gmF_lt H.out (a := a) (by rw [← hN.out]; exact ha) k (b / 2 ^ (m - k))
      rw [← hN.out] at hg
      have hm := mx_lt H.out (by rw [← hN.out]; exact hg)
      rw [← hN.out] at hm
      have HM := hid (show mx p m (gmF p m a k (b / 2 ^ (m - k))) = if N ≤ 2 * gmF p m a k (b / 2 ^ (m - k)) then (2 * gmF p m a k (b / 2 ^ (m - k))) ^^^ p else 2 * gmF p m a k (b / 2 ^ (m - k)) by rw [hN.out]; rfl)
      clear hcq
      generalize gmF p m a k (b / 2 ^ (m - k)) = x at *
      generalize N / 2 ^ (k + 1) = bit at *
      have hbit : (0 : Int) < (bit : Int) := by omega
      have ax : ∀ y : Nat, y < N → bits .xor .i64 (y : Int) (a : Int) = ((y ^^^ a : Nat) : Int) := fun y hy => i64_xor y a (by omega) (by omega)
      by_cases hge : N ≤ 2 * x
      · have hge' : (N : Int) ≤ (x : Int) * 2 := by omega
        have hxor : bits .xor .i64 ((x : Int) * 2) (p : Int) = ((2 * x ^^^ p : Nat) : Int) := by
          rw [← i64_xor (2 * x) p (by omega) (by omega)]; congr 1; omega
        have HM1 := HM.out
        rw [if_pos hge] at HM1
        rw [HM1] at hm HG
        have HM2 := hid HM1
        have hax := ax _ hm
        clear HM1 ax
        generalize 2 * x ^^^ p = y at *
        by_cases h2 : cq % 2 = 1
        · have h2' : (((cq : Nat) : Int) % 2 == 1) = true := by rw [beq_iff_eq]; omega
          have HG1 := HG.out
          rw [if_pos h2] at HG1
          have HG2 := hid HG1
          clear HG HG1 h2
          go_wp2
          go_round
          case rel => exact ⟨k + 1, by omega, by rw [← HB1.out]; go_num, by rw [← HC.out, HG2.out]⟩
          case measure => simp [intOf]; omega
        · have h2' : (((cq : Nat) : Int) % 2 == 1) = false := by rw [beq_eq_false_iff_ne]; omega
          have HG1 := HG.out
          rw [if_neg h2, Nat.xor_zero] at HG1
          have HG2 := hid HG1
          clear HG HG1 h2
          go_wp2
          go_round
          case rel => exact ⟨k + 1, by omega, by rw [← HB1.out]; go_num, by rw [← HC.out, HG2.out]⟩
          case measure => simp [intOf]; omega
      · have hge' : ¬ (N : Int) ≤ (x : Int) * 2 := by omega
        have HM1 := HM.out
        rw [if_neg hge] at HM1
        rw [HM1] at hm HG
        have hax := ax _ hm
        rw [show ((2 * x : Nat) : Int) = (x : Int) * 2 from by omega] at hax
        clear HM1 ax HM
        by_cases h2 : cq % 2 = 1
        · have h2' : (((cq : Nat) : Int) % 2 == 1) = true := by rw [beq_iff_eq]; omega
          have HG1 := HG.out
          rw [if_pos h2] at HG1
          have HG2 := hid HG1
          clear HG HG1 h2
          go_wp2
          go_round
          case rel => exact ⟨k + 1, by omega, by rw [← HB1.out]; go_num, by (rw [← HC.out, HG2.out]) <;> go_num⟩
          case measure => simp [intOf]; omega
        · have h2' : (((cq : Nat) : Int) % 2 == 1) = false := by rw [beq_eq_false_iff_ne]; omega
          have HG1 := HG.out
          rw [if_neg h2, Nat.xor_zero] at HG1
          have HG2 := hid HG1
          clear HG HG1 h2
          go_wp2
          go_round
          case rel => exact ⟨k + 1, by omega, by rw [← HB1.out]; go_num, by (rw [← HC.out, HG2.out]) <;> go_num⟩
          case measure => simp [intOf]; omega
    · obtain rfl : k = m := by omega
      have hz : N / 2 ^ (k + 1) = 0 := by rw [hN.out]; exact Nat.div_eq_of_lt (Nat.pow_lt_pow_right (by omega) (by omega))
      have HZ := hid (show gmF p k a k (b / 2 ^ (k - k)) = gm p k a b by simp [gm])
      rw [hz]
      go_wp2
      go_ret
      exact ⟨rfl, B0⟩

/-! ### impl.FieldTimes, and sums -/
end
/- The walks of lists of elements: RSElements, RSTidy, rsPoly, impl.poly. -/
section
open Go.RowKit
set_option linter.unusedVariables false

/-- A list of ints in new memory is handed back. -/
def ListOut (l : List Nat) (w : World) (e : Ending) (w' : World) : Prop :=
  ∃ A c, e = .returned (.slice A l.length c) ∧ l.length ≤ c ∧ Rd w' A l.length (ints l) ∧ (∀ a, A = some a → w.heap.size ≤ a.block) ∧ Below w.heap.size w w'

/-- The elements that the first k ints say. -/
def elems (N : Nat) (zs : List Int) (k : Nat) : List Nat := (zs.take k).map (elemOf N)
theorem elems_succ (N : Nat) (zs : List Int) (k : Nat) (h : k < zs.length) : elems N zs (k + 1) = elems N zs k ++ [elemOf N (zs.getD k 0)] := by
  unfold elems
  rw [List.take_succ_eq_append_getElem h, List.map_append]
  simp [List.getD, List.getElem?_eq_getElem h]
theorem elems_length (N : Nat) (zs : List Int) (k : Nat) (h : k ≤ zs.length) : (elems N zs k).length = k := by simp [elems]; omega

section
variable {g b : Nat} {o : Nat} {c0 c1 c2 v : Value} {w w1 : World}
theorem keep4_below (h : w.cell? ⟨g, 0, none⟩ = some c0 ∧ w.cell? ⟨g, 1, none⟩ = some c1 ∧ w.cell? ⟨g, 2, none⟩ = some c2 ∧ w.cell? ⟨b, o, none⟩ = some v ∧ g < w.heap.size ∧ b < w.heap.size) (hb : Below w.heap.size w w1) :
    w1.cell? ⟨g, 0, none⟩ = some c0 ∧ w1.cell? ⟨g, 1, none⟩ = some c1 ∧ w1.cell? ⟨g, 2, none⟩ = some c2 ∧ w1.cell? ⟨b, o, none⟩ = some v ∧ g < w1.heap.size ∧ b < w1.heap.size := by
  obtain ⟨h0, h1, h2, h3, h4, h5⟩ := h
  exact ⟨(hb.cell (p := ⟨g, 0, none⟩) h4).trans h0, (hb.cell (p := ⟨g, 1, none⟩) h4).trans h1, (hb.cell (p := ⟨g, 2, none⟩) h4).trans h2, (hb.cell (p := ⟨b, o, none⟩) h5).trans h3, Nat.lt_of_lt_of_le h4 hb.size, Nat.lt_of_lt_of_le h5 hb.size⟩
theorem keep4_alloc (x : Obj) (h : w.cell? ⟨g, 0, none⟩ = some c0 ∧ w.cell? ⟨g, 1, none⟩ = some c1 ∧ w.cell? ⟨g, 2, none⟩ = some c2 ∧ w.cell? ⟨b, o, none⟩ = some v ∧ g < w.heap.size ∧ b < w.heap.size) :
    (w.alloc x).cell? ⟨g, 0, none⟩ = some c0 ∧ (w.alloc x).cell? ⟨g, 1, none⟩ = some c1 ∧ (w.alloc x).cell? ⟨g, 2, none⟩ = some c2 ∧ (w.alloc x).cell? ⟨b, o, none⟩ = some v ∧ g < (w.alloc x).heap.size ∧ b < (w.alloc x).heap.size :=
  keep4_below h ((Below.refl _ _).alloc (Nat.le_refl _) _)
theorem keep4_drew (h : w.cell? ⟨g, 0, none⟩ = some c0 ∧ w.cell? ⟨g, 1, none⟩ = some c1 ∧ w.cell? ⟨g, 2, none⟩ = some c2 ∧ w.cell? ⟨b, o, none⟩ = some v ∧ g < w.heap.size ∧ b < w.heap.size) :
    w.drew.cell? ⟨g, 0, none⟩ = some c0 ∧ w.drew.cell? ⟨g, 1, none⟩ = some c1 ∧ w.drew.cell? ⟨g, 2, none⟩ = some c2 ∧ w.drew.cell? ⟨b, o, none⟩ = some v ∧ g < w.drew.heap.size ∧ b < w.drew.heap.size := h
theorem keep4_grown {row : Option Nat} (h : w.cell? ⟨g, 0, none⟩ = some c0 ∧ w.cell? ⟨g, 1, none⟩ = some c1 ∧ w.cell? ⟨g, 2, none⟩ = some c2 ∧ w.cell? ⟨b, o, none⟩ = some v ∧ g < w.heap.size ∧ b < w.heap.size) (hg : w.grownBy w1 row) (n1 : some g ≠ row) (n2 : some b ≠ row) :
    w1.cell? ⟨g, 0, none⟩ = some c0 ∧ w1.cell? ⟨g, 1, none⟩ = some c1 ∧ w1.cell? ⟨g, 2, none⟩ = some c2 ∧ w1.cell? ⟨b, o, none⟩ = some v ∧ g < w1.heap.size ∧ b < w1.heap.size := by
  obtain ⟨h0, h1, h2, h3, h4, h5⟩ := h
  have e1 := hg.block g h4 n1
  have e2 := hg.block b h5 n2
  exact ⟨(World.cell?_of_block (w := w) (a := ⟨g, 0, none⟩) e1).trans h0, (World.cell?_of_block (w := w) (a := ⟨g, 1, none⟩) e1).trans h1, (World.cell?_of_block (w := w) (a := ⟨g, 2, none⟩) e1).trans h2, (World.cell?_of_block (w := w) (a := ⟨b, o, none⟩) e2).trans h3, Nat.lt_of_lt_of_le h4 hg.size, Nat.lt_of_lt_of_le h5 hg.size⟩
end

theorem rd_z {w : World} {A : Option Addr} {n : Nat} {zs : List Int} {k : IntKind} (h : Rd w A n (zs.map (Value.int k))) (j : Nat) (hj : j < n) :
    ∃ b o, A = some ⟨b, o, none⟩ ∧ b < w.heap.size ∧ w.cell? ⟨b, o + j, none⟩ = some (.int k (zs.getD j 0)) := by
  obtain ⟨b, o, hA, hb, hc⟩ := h.2 (by omega)
  have hl : zs.length = n := by have := h.1; simpa using this
  refine ⟨b, o, hA, hb, ?_⟩
  rw [hc j (by rw [List.length_map]; omega)]
  simp [List.getD, List.getElem?_eq_getElem (show j < zs.length by omega)]

/-- Onto what was handed over nothing is appended: the list stands in new memory. -/
theorem listOut_of_own {w w' : World} {B : Nat} {v : Value} {l : List Nat} (hO : Own w' B 3 v (ints l)) (hB : Below w.heap.size w w') (hBw : w.heap.size ≤ B) : ListOut l w (.returned v) w' := by
  obtain ⟨A, c, hv, hR, hc⟩ := hO.form
  have hBl := hO.lt
  subst hv
  rw [ints_length] at hR hc ⊢
  exact ⟨A, c, rfl, hc, hR, fun a e => by subst e; have := (hBl a.block rfl).1; omega, hB⟩

theorem Own.lit0 (w : World) (e : TypeId) {B : Nat} (hB : B ≤ w.heap.size) : Own (w.alloc (.cells #[] e)) B e (.slice (some ⟨w.heap.size, 0, none⟩) 0 0) [] :=
  World.ownsRow_lit w #[] 0 hB (by simp [maxLen]) rfl

/-- How many zeros are ahead, but for the last one. -/
theorem tidy_of (l : List Nat) (k : Nat) (hk : k < l.length) (hz : ∀ j, j < k → l.getD j 0 = 0) (hs : l.getD k 0 ≠ 0 ∨ k = l.length - 1) : tidy l = l.drop k := by
  rw [tidy_drop l k hk hz]
  refine tidy_first ?_ (by rw [List.length_drop]; omega)
  rcases hs with h | h
  · left; rw [getD_drop0]; exact h
  · right; rw [List.length_drop]; omega

set_option maxHeartbeats 1000000 in
theorem rsTidy (A : Option Addr) (n c : Nat) (l : List Nat) (w : World) (hR : Rd w A n (ints l)) (hn : 1 ≤ n) (hn2 : n ≤ 1000000) (hc : n ≤ c) :
    Calls Tryz.prog 76 #[.slice A n c] w (ListOut (tidy l) w) := by
  have hl : l.length = n := by have := hR.1; simpa [ints] using this
  have HL := hid hl
  obtain ⟨i0, hi, hz0, hz1, hz2⟩ := info_parts info3
  obtain ⟨b, o, rfl, hb, _⟩ := rd_int hR 0 (by omega)
  clear hl
  go_enter Tryz.func76, Tryz.ntmps76
  go_wp2
  go_loop [3] (fun i => ∃ k : Nat, k ≤ n - 1 ∧ i = .int .i64 k ∧ Hid (∀ j, j < k → l.getD j 0 = 0)) (fun i => n - 1 - (intOf i).toNat)
  case atStart => exact ⟨0, by omega, rfl, hid (fun j hj => by omega)⟩
  case round =>
    obtain ⟨k, hk, rfl, hzs⟩ := hrel
    obtain ⟨b', o', he, _, hck⟩ := rd_int hR k (by omega)
    cases he
    have hkn : (k : Int) < (n : Int) := by omega
    by_cases hgo : k < n - 1 ∧ l.getD k 0 = 0
    · obtain ⟨hlt, hz⟩ := hgo
      have hlt' : (k : Int) < (n : Int) - 1 := by omega
      rw [hz] at hck
      simp only [Int.natCast_zero] at hck
      have HZ' := hid hz
      clear hz
      go_wp2
      go_round
      case rel =>
        refine ⟨k + 1, by omega, by go_num, hid (fun j hj => ?_)⟩
        rcases Nat.lt_or_ge j k with h2 | h2
        · exact hzs.out j h2
        · rw [show j = k from by omega]; exact HZ'.out
      case measure => simp [intOf]; omega
    · have HT := hid (tidy_of l k (by rw [HL.out]; omega) hzs.out (by
        rcases Nat.lt_or_ge k (n - 1) with h | h
        · left; intro hz; exact hgo ⟨h, hz⟩
        · right; rw [HL.out]; omega))
      have hgo' := hid hgo
      clear hgo
      have hlen := hid (show (tidy l).length = n - k by rw [HT.out, List.length_drop, HL.out])
      have hRd := hid (Rd.drop hR k (by omega))
      by_cases hlt : k < n - 1
      · have hlt' : (k : Int) < (n : Int) - 1 := by omega
        have hz' : (((l.getD k 0 : Nat) : Int) == 0) = false := by rw [beq_eq_false_iff_ne]; intro e; exact hgo'.out ⟨hlt, by omega⟩
        generalize l.getD k 0 = lk at *
        go_wp2_with (at_builtin; refine wpList_app _ rfl _ _ 25 rfl w.heap.size 3 i0 _ 8 Tryz.underlying25 hi hz0 hz1 hz2 rfl (.slice (some ⟨w.heap.size, 0, none⟩) 0 0) [] rfl (Own.lit0 _ _ (Nat.le_refl _)) (some ⟨b, o + k, none⟩) (n - k) (c - k) (ints (tidy l)) rfl (by rw [HT.out, ints, List.map_drop]; exact hRd.out.alloc _) (ints_one _) (by simp [maxLen]; omega) (by simp; omega) (by simp) ?_)
        intro v1 w2 hO hg _
        have hB : Below w.heap.size w w2 := ((Below.refl _ w).alloc (Nat.le_refl _) (.cells #[] 3)).grown hg (by simp) (fun j hj => by simp [Value.ownBlock] at hj; omega)
        have HO := hid hO
        clear hO hg
        go_wp2
        go_ret
        exact listOut_of_own HO.out hB (Nat.le_refl _)
      · have hlt' : ¬ (k : Int) < (n : Int) - 1 := by omega
        go_wp2_with (at_builtin; refine wpList_app _ rfl _ _ 25 rfl w.heap.size 3 i0 _ 8 Tryz.underlying25 hi hz0 hz1 hz2 rfl (.slice (some ⟨w.heap.size, 0, none⟩) 0 0) [] rfl (Own.lit0 _ _ (Nat.le_refl _)) (some ⟨b, o + k, none⟩) (n - k) (c - k) (ints (tidy l)) rfl (by rw [HT.out, ints, List.map_drop]; exact hRd.out.alloc _) (ints_one _) (by simp [maxLen]; omega) (by simp; omega) (by simp) ?_)
        intro v1 w2 hO hg _
        have hB : Below w.heap.size w w2 := ((Below.refl _ w).alloc (Nat.le_refl _) (.cells #[] 3)).grown hg (by simp) (fun j hj => by simp [Value.ownBlock] at hj; omega)
        have HO := hid hO
        clear hO hg
        go_wp2
        go_ret
        exact listOut_of_own HO.out hB (Nat.le_refl _)

end
/- FnRSTimes: the walk of the law. -/
section
open Go.RowKit
set_option linter.unusedVariables false

theorem keepF {g : Nat} {c0 c1 c2 : Value} {w0 w w1 : World} (h : w.cell? ⟨g, 0, none⟩ = some c0 ∧ w.cell? ⟨g, 1, none⟩ = some c1 ∧ w.cell? ⟨g, 2, none⟩ = some c2 ∧ g < w.heap.size ∧ Below w0.heap.size w0 w) (hb : Below w.heap.size w w1) :
    w1.cell? ⟨g, 0, none⟩ = some c0 ∧ w1.cell? ⟨g, 1, none⟩ = some c1 ∧ w1.cell? ⟨g, 2, none⟩ = some c2 ∧ g < w1.heap.size ∧ Below w0.heap.size w0 w1 :=
  ⟨(hb.cell (p := ⟨g, 0, none⟩) h.2.2.2.1).trans h.1, (hb.cell (p := ⟨g, 1, none⟩) h.2.2.2.1).trans h.2.1, (hb.cell (p := ⟨g, 2, none⟩) h.2.2.2.1).trans h.2.2.1, Nat.lt_of_lt_of_le h.2.2.2.1 hb.size, h.2.2.2.2.trans (hb.mono h.2.2.2.2.size)⟩

theorem keepD {g : Nat} {c0 c1 c2 : Value} {w0 w : World} (h : w.cell? ⟨g, 0, none⟩ = some c0 ∧ w.cell? ⟨g, 1, none⟩ = some c1 ∧ w.cell? ⟨g, 2, none⟩ = some c2 ∧ g < w.heap.size ∧ Below w0.heap.size w0 w) :
    w.drew.cell? ⟨g, 0, none⟩ = some c0 ∧ w.drew.cell? ⟨g, 1, none⟩ = some c1 ∧ w.drew.cell? ⟨g, 2, none⟩ = some c2 ∧ g < w.drew.heap.size ∧ Below w0.heap.size w0 w.drew :=
  ⟨h.1, h.2.1, h.2.2.1, h.2.2.2.1, h.2.2.2.2.drew⟩

end
/- FnRSValues: the walk of the law. -/
section
open Go.RowKit
set_option linter.unusedVariables false

theorem tidy_cases : ∀ l : List Nat, 1 ≤ (tidy l).length ∧ (∀ x ∈ tidy l, x = 0 ∨ x ∈ l) ∧ ((tidy l).getD 0 0 ≠ 0 ∨ (tidy l).length = 1) ∧ (1 ≤ l.length → (tidy l).length ≤ l.length)
  | [] => ⟨by simp [tidy], by simp [tidy], by simp [tidy], by simp⟩
  | [a] => ⟨by simp [tidy], by simp [tidy], by simp [tidy], by simp [tidy]⟩
  | 0 :: b :: l => by
    obtain ⟨h1, h2, h3, h4⟩ := tidy_cases (b :: l)
    refine ⟨h1, fun x hx => ?_, h3, fun _ => ?_⟩
    · rcases h2 x hx with h | h
      · exact .inl h
      · exact .inr (List.mem_cons_of_mem _ h)
    · have := h4 (by simp)
      simp only [tidy, List.length_cons] at *
      omega
  | (a + 1) :: b :: l => ⟨by simp [tidy], fun x hx => .inr hx, by simp [tidy], by simp [tidy]⟩
theorem tidy_tidy (l : List Nat) : tidy (tidy l) = tidy l := by
  obtain ⟨h1, _, h3, _⟩ := tidy_cases l
  exact tidy_first h3 h1
theorem tidy_in {p m : Nat} (h : IsGF p m) {l : List Nat} (hl : AllIn m l) : AllIn m (tidy l) := by
  intro x hx
  rcases (tidy_cases l).2.1 x hx with h0 | h0
  · subst h0; exact Nat.two_pow_pos m
  · exact hl x h0
theorem elems_in {m N : Nat} (hN : N = 2 ^ m) (h0 : 0 < N) (zs : List Int) (k : Nat) : AllIn m (elems N zs k) := by
  intro x hx
  obtain ⟨z, _, rfl⟩ := List.mem_map.1 hx
  rw [← hN]
  exact elemOf_lt N z h0

end
end Go.Proofs.YtliephokeafllaaGreatDoor.Rs
