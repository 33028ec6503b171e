/- The fields of the symbols as plain arithmetic: elements are numbers, their bits polynomials over two elements, less multiples of the primitive one. No program. -/
namespace Go.Proofs.Ytpkmknbmjlnkgaa
set_option linter.unusedSimpArgs false

/-- An element times the unknown. -/
def mx (p m a : Nat) : Nat := if 2 ^ m ≤ 2 * a then (2 * a) ^^^ p else 2 * a
/-- The powers of the unknown. -/
def ex (p m : Nat) : Nat → Nat
  | 0 => 1
  | i + 1 => mx p m (ex p m i)
/-- The product, by the bits of the second factor (at most k of them). -/
def gmF (p m a : Nat) : Nat → Nat → Nat
  | 0, _ => 0
  | k + 1, c => mx p m (gmF p m a k (c / 2)) ^^^ (if c % 2 = 1 then a else 0)
def gm (p m a b : Nat) : Nat := gmF p m a m b

/-- What is checked of a field by reckoning. -/
def zeroAt (p m : Nat) : Nat → Bool
  | 0 => true
  | k + 1 => gmF p m (2 ^ k) (m + 1) p == 0 && zeroAt p m k
def maskTo (p m : Nat) : Nat → Nat → Nat → Nat
  | 0, _, acc => acc
  | k + 1, x, acc => maskTo p m k (mx p m x) (acc ||| 1 <<< x)
def noOne (p m : Nat) : Nat → Nat → Bool
  | 0, _ => true
  | k + 1, x => x != 1 && noOne p m k (mx p m x)
def exAt (p m : Nat) : Nat → Nat → Nat
  | 0, x => x
  | k + 1, x => exAt p m k (mx p m x)

/-- A field: the primitive polynomial and how many bits an element has. -/
structure IsGF (p m : Nat) : Prop where
  pos : 2 ≤ m
  small : m ≤ 12
  low : 2 ^ m ≤ p
  high : p < 2 ^ (m + 1)
  odd : p % 2 = 1
  zero : zeroAt p m m = true
  mask : maskTo p m (2 ^ m - 1) 1 0 = 2 ^ 2 ^ m - 2
  ones : noOne p m (2 ^ m - 2) (mx p m 1) = true
  round : exAt p m (2 ^ m - 1) 1 = 1

theorem gf16 : IsGF 0x13 4 := ⟨by decide, by decide, by decide, by decide, by decide, by decide +kernel, by decide +kernel, by decide +kernel, by decide +kernel⟩
theorem gf64 : IsGF 0x43 6 := ⟨by decide, by decide, by decide, by decide, by decide, by decide +kernel, by decide +kernel, by decide +kernel, by decide +kernel⟩
theorem gf256a : IsGF 0x12D 8 := ⟨by decide, by decide, by decide, by decide, by decide, by decide +kernel, by decide +kernel, by decide +kernel, by decide +kernel⟩
theorem gf256q : IsGF 0x11D 8 := ⟨by decide, by decide, by decide, by decide, by decide, by decide +kernel, by decide +kernel, by decide +kernel, by decide +kernel⟩
theorem gf1024 : IsGF 0x409 10 := ⟨by decide, by decide, by decide, by decide, by decide, by decide +kernel, by decide +kernel, by decide +kernel, by decide +kernel⟩
set_option maxRecDepth 1000000 in
theorem gf4096 : IsGF 0x1069 12 := ⟨by decide, by decide, by decide, by decide, by decide, by decide +kernel, by decide +kernel, by decide +kernel, by decide +kernel⟩

section
variable {p m : Nat}

theorem xor_lc (a b c : Nat) : a ^^^ (b ^^^ c) = b ^^^ (a ^^^ c) := by rw [← Nat.xor_assoc, Nat.xor_comm a b, Nat.xor_assoc]
theorem xor_cl (a b : Nat) : a ^^^ (a ^^^ b) = b := by rw [← Nat.xor_assoc, Nat.xor_self, Nat.zero_xor]
theorem xor_mod2 (c d : Nat) : (c ^^^ d) % 2 = (c + d) % 2 := by
  have := Nat.xor_mod_two_pow (a := c) (b := d) (n := 1)
  simp only [Nat.pow_one] at this
  rw [this]
  rcases Nat.mod_two_eq_zero_or_one c with hc | hc <;> rcases Nat.mod_two_eq_zero_or_one d with hd | hd <;> simp [hc, hd, Nat.add_mod]
theorem xor_zero_iff {a b : Nat} (h : a ^^^ b = 0) : a = b := by
  have e : a ^^^ (a ^^^ b) = b := xor_cl a b
  rw [h, Nat.xor_zero] at e
  exact e
theorem two_mul_xor (a b : Nat) : 2 * (a ^^^ b) = 2 * a ^^^ 2 * b := by
  have := Nat.shiftLeft_xor_distrib (a := a) (b := b) (i := 1)
  simp only [Nat.shiftLeft_eq, Nat.pow_one] at this
  rw [Nat.mul_comm 2, this, Nat.mul_comm a, Nat.mul_comm b]

/-- The element with its upper bit told apart. -/
theorem mx_eq (h : IsGF p m) {a : Nat} (ha : a < 2 ^ m) : mx p m a = 2 * a ^^^ (if a.testBit (m - 1) = true then p else 0) := by
  have hp : 2 ^ m = 2 * 2 ^ (m - 1) := by have := h.pos; rw [show m = (m - 1) + 1 from by omega, Nat.pow_succ]; simp; omega
  have hb : a.testBit (m - 1) = decide (2 ^ m ≤ 2 * a) := by
    rw [Nat.testBit_eq_decide_div_mod_eq]
    have hlt : a / 2 ^ (m - 1) < 2 := Nat.div_lt_of_lt_mul (by omega)
    by_cases hc : 2 ^ m ≤ 2 * a
    · have : 1 ≤ a / 2 ^ (m - 1) := (Nat.le_div_iff_mul_le (Nat.two_pow_pos _)).2 (by omega)
      rw [show a / 2 ^ (m - 1) = 1 from by omega]
      simp [hc]
    · have : a / 2 ^ (m - 1) = 0 := Nat.div_eq_of_lt (by omega)
      rw [this]
      simp [hc]
  unfold mx
  rw [hb]
  by_cases hc : 2 ^ m ≤ 2 * a <;> simp [hc]

theorem mx_lt (h : IsGF p m) {a : Nat} (ha : a < 2 ^ m) : mx p m a < 2 ^ m := by
  unfold mx
  split
  · rename_i hc
    have h1 := h.low
    have h2 := h.high
    have hp : 2 ^ (m + 1) = 2 * 2 ^ m := by rw [Nat.pow_succ, Nat.mul_comm]
    have e1 : (2 * a) >>> m = 1 := by
      rw [Nat.shiftRight_eq_div_pow]
      have : 2 * a / 2 ^ m < 2 := Nat.div_lt_of_lt_mul (by omega)
      have : 1 ≤ 2 * a / 2 ^ m := (Nat.le_div_iff_mul_le (Nat.two_pow_pos _)).2 (by omega)
      omega
    have e2 : p >>> m = 1 := by
      rw [Nat.shiftRight_eq_div_pow]
      have : p / 2 ^ m < 2 := Nat.div_lt_of_lt_mul (by omega)
      have : 1 ≤ p / 2 ^ m := (Nat.le_div_iff_mul_le (Nat.two_pow_pos _)).2 (by omega)
      omega
    have e3 : (2 * a ^^^ p) >>> m = 0 := by rw [Nat.shiftRight_xor_distrib, e1, e2]; rfl
    rw [Nat.shiftRight_eq_div_pow] at e3
    exact Nat.lt_of_div_eq_zero (Nat.two_pow_pos _) e3
  · omega

theorem mx_xor (h : IsGF p m) {a b : Nat} (ha : a < 2 ^ m) (hb : b < 2 ^ m) : mx p m (a ^^^ b) = mx p m a ^^^ mx p m b := by
  rw [mx_eq h ha, mx_eq h hb, mx_eq h (Nat.xor_lt_two_pow ha hb), two_mul_xor, Nat.testBit_xor]
  cases a.testBit (m - 1) <;> cases b.testBit (m - 1) <;> simp [Nat.xor_assoc, Nat.xor_comm, xor_lc, xor_cl]

theorem mx_zero (p m : Nat) : mx p m 0 = 0 := by
  unfold mx
  rw [if_neg (by have := Nat.two_pow_pos m; omega)]

theorem gmF_lt (h : IsGF p m) {a : Nat} (ha : a < 2 ^ m) (k c : Nat) : gmF p m a k c < 2 ^ m := by
  induction k generalizing c with
  | zero => exact Nat.two_pow_pos m
  | succ k ih =>
    unfold gmF
    refine Nat.xor_lt_two_pow (mx_lt h (ih _)) ?_
    split
    · exact ha
    · exact Nat.two_pow_pos m

theorem gmF_right (h : IsGF p m) {a : Nat} (ha : a < 2 ^ m) (k c d : Nat) : gmF p m a k (c ^^^ d) = gmF p m a k c ^^^ gmF p m a k d := by
  induction k generalizing c d with
  | zero => simp [gmF]
  | succ k ih =>
    have e1 : (c ^^^ d) / 2 = c / 2 ^^^ d / 2 := Nat.xor_div_two
    have e2 : (c ^^^ d) % 2 = (c + d) % 2 := xor_mod2 _ _
    simp only [gmF, e1, ih, mx_xor h (gmF_lt h ha _ _) (gmF_lt h ha _ _), e2]
    rcases Nat.mod_two_eq_zero_or_one c with hc | hc <;> rcases Nat.mod_two_eq_zero_or_one d with hd | hd <;>
      simp [hc, hd, Nat.add_mod, Nat.xor_assoc, Nat.xor_comm, xor_lc, xor_cl]

theorem gmF_left (h : IsGF p m) {a b : Nat} (ha : a < 2 ^ m) (hb : b < 2 ^ m) (k c : Nat) : gmF p m (a ^^^ b) k c = gmF p m a k c ^^^ gmF p m b k c := by
  induction k generalizing c with
  | zero => simp [gmF]
  | succ k ih =>
    simp only [gmF, ih, mx_xor h (gmF_lt h ha _ _) (gmF_lt h hb _ _)]
    split <;> simp [Nat.xor_assoc, Nat.xor_comm, xor_lc, xor_cl]

theorem gmF_zero (p m a k : Nat) : gmF p m a k 0 = 0 := by
  induction k with
  | zero => rfl
  | succ k ih => simp [gmF, ih, mx_zero]
theorem gmF_of_zero (p m k c : Nat) : gmF p m 0 k c = 0 := by
  induction k generalizing c with
  | zero => rfl
  | succ k ih => simp [gmF, ih, mx_zero]

theorem gmF_fuel (p m a : Nat) : ∀ k c, c < 2 ^ k → gmF p m a (k + 1) c = gmF p m a k c := by
  intro k
  induction k with
  | zero =>
    intro c hc
    obtain rfl : c = 0 := by simpa using hc
    exact gmF_zero p m a 1
  | succ k ih =>
    intro c hc
    have e := ih (c / 2) (by rw [Nat.pow_succ] at hc; omega)
    show mx p m (gmF p m a (k + 1) (c / 2)) ^^^ _ = mx p m (gmF p m a k (c / 2)) ^^^ _
    rw [e]

theorem add_xor {j b : Nat} (hb : b < 2 ^ j) : 2 ^ j + b = 2 ^ j ^^^ b := by
  apply Nat.eq_of_testBit_eq
  intro i
  rw [Nat.testBit_xor, Nat.testBit_two_pow]
  rcases Nat.lt_trichotomy i j with hi | hi | hi
  · rw [Nat.testBit_two_pow_add_gt hi]
    simp [show ¬ j = i by omega]
  · subst hi
    rw [Nat.testBit_two_pow_add_eq]
    simp
  · have h1 : 2 ^ j + b < 2 ^ i := Nat.lt_of_lt_of_le (show 2 ^ j + b < 2 ^ (j + 1) by rw [Nat.pow_succ]; omega) (Nat.pow_le_pow_right (by omega) (by omega))
    rw [Nat.testBit_lt_two_pow h1, Nat.testBit_lt_two_pow (show b < 2 ^ i by omega)]
    simp [show ¬ j = i by omega]

theorem zeroAt_all : ∀ k, zeroAt p m k = true → ∀ j, j < k → gmF p m (2 ^ j) (m + 1) p = 0 := by
  intro k
  induction k with
  | zero => intro _ j hj; omega
  | succ k ih =>
    intro hz j hj
    simp only [zeroAt, Bool.and_eq_true, beq_iff_eq] at hz
    rcases Nat.lt_or_ge j k with h1 | h1
    · exact ih hz.2 j h1
    · rw [show j = k from by omega]; exact hz.1

/-- The primitive polynomial is zero at the unknown. -/
theorem gm_prim (h : IsGF p m) {a : Nat} (ha : a < 2 ^ m) : gmF p m a (m + 1) p = 0 := by
  have key : ∀ j, j ≤ m → ∀ a, a < 2 ^ j → gmF p m a (m + 1) p = 0 := by
    intro j
    induction j with
    | zero =>
      intro _ a ha
      obtain rfl : a = 0 := by simpa using ha
      exact gmF_of_zero p m _ _
    | succ j ih =>
      intro hj a ha
      rcases Nat.lt_or_ge a (2 ^ j) with h1 | h1
      · exact ih (by omega) a h1
      · have hb : a - 2 ^ j < 2 ^ j := by rw [Nat.pow_succ] at ha; omega
        have e : a = 2 ^ j ^^^ (a - 2 ^ j) := by rw [← add_xor hb]; omega
        have hjm : 2 ^ j < 2 ^ m := Nat.pow_lt_pow_right (by omega) (by omega)
        rw [e, gmF_left h hjm (by omega), zeroAt_all m h.zero j (by omega), ih (by omega) _ hb]
        rfl
  exact key m (Nat.le_refl _) a ha

theorem gm_lt (h : IsGF p m) {a : Nat} (ha : a < 2 ^ m) (b : Nat) : gm p m a b < 2 ^ m := gmF_lt h ha _ _
theorem gm_right (h : IsGF p m) {a : Nat} (ha : a < 2 ^ m) (b c : Nat) : gm p m a (b ^^^ c) = gm p m a b ^^^ gm p m a c := gmF_right h ha _ _ _

/-- Times the unknown: of the second factor, or of the product. -/
theorem gm_mx (h : IsGF p m) {a b : Nat} (ha : a < 2 ^ m) (hb : b < 2 ^ m) : gm p m a (mx p m b) = mx p m (gm p m a b) := by
  unfold gm
  rw [← gmF_fuel p m a m _ (mx_lt h hb), mx_eq h hb, gmF_right h ha]
  have e1 : gmF p m a (m + 1) (2 * b) = mx p m (gmF p m a m b) := by
    show mx p m (gmF p m a m (2 * b / 2)) ^^^ (if 2 * b % 2 = 1 then a else 0) = _
    rw [show 2 * b / 2 = b from by omega, if_neg (by omega), Nat.xor_zero]
  rw [e1]
  split
  · rw [gm_prim h ha, Nat.xor_zero]
  · rw [gmF_zero, Nat.xor_zero]

theorem gm_one (h : IsGF p m) (a : Nat) : gm p m a 1 = a := by
  unfold gm
  obtain ⟨k, hk⟩ : ∃ k, m = k + 1 := ⟨m - 1, by have := h.pos; omega⟩
  have : gmF p m a (k + 1) 1 = a := by
    show mx p m (gmF p m a k (1 / 2)) ^^^ (if 1 % 2 = 1 then a else 0) = a
    rw [show 1 / 2 = 0 from rfl, gmF_zero, mx_zero]
    simp
  rw [← hk] at this
  exact this

/-- Times the unknown, so often. -/
def it (p m a : Nat) : Nat → Nat
  | 0 => a
  | i + 1 => mx p m (it p m a i)
theorem ex_it (i : Nat) : ex p m i = it p m 1 i := by
  induction i with
  | zero => rfl
  | succ i ih => simp only [ex, it, ih]
theorem it_lt (h : IsGF p m) {a : Nat} (ha : a < 2 ^ m) (i : Nat) : it p m a i < 2 ^ m := by
  induction i with
  | zero => exact ha
  | succ i ih => exact mx_lt h ih
theorem one_lt (h : IsGF p m) : 1 < 2 ^ m := Nat.one_lt_two_pow (by have := h.pos; omega)
theorem ex_lt (h : IsGF p m) (i : Nat) : ex p m i < 2 ^ m := by rw [ex_it]; exact it_lt h (one_lt h) i
theorem it_add (a i j : Nat) : it p m (it p m a i) j = it p m a (i + j) := by
  induction j with
  | zero => rfl
  | succ j ih => show mx p m (it p m (it p m a i) j) = mx p m (it p m a (i + j)); rw [ih]
theorem gm_ex (h : IsGF p m) {a : Nat} (ha : a < 2 ^ m) (j : Nat) : gm p m a (ex p m j) = it p m a j := by
  induction j with
  | zero => exact gm_one h a
  | succ j ih => simp only [ex, it, gm_mx h ha (ex_lt h j), ih]
theorem gm_exex (h : IsGF p m) (i j : Nat) : gm p m (ex p m i) (ex p m j) = ex p m (i + j) := by
  rw [gm_ex h (ex_lt h i), ex_it, ex_it, it_add]
theorem exAt_it (k : Nat) : ∀ x, exAt p m k x = it p m x k := by
  induction k with
  | zero => intro x; rfl
  | succ k ih =>
    intro x
    simp only [exAt, ih]
    have := it_add (p := p) (m := m) x 1 k
    rw [Nat.add_comm 1 k] at this
    exact this
theorem ex_round (h : IsGF p m) : ex p m (2 ^ m - 1) = 1 := by
  rw [ex_it, ← exAt_it]; exact h.round
theorem ex_add_round (h : IsGF p m) (i : Nat) : ex p m (i + (2 ^ m - 1)) = ex p m i := by
  rw [Nat.add_comm, ex_it, ← it_add, ← ex_it, ex_round h, ex_it]
theorem ex_mod (h : IsGF p m) (i : Nat) : ex p m (i % (2 ^ m - 1)) = ex p m i := by
  have key : ∀ k r, ex p m (r + k * (2 ^ m - 1)) = ex p m r := by
    intro k
    induction k with
    | zero => intro r; simp
    | succ k ih => intro r; rw [Nat.succ_mul, ← Nat.add_assoc, ex_add_round h, ih]
  have := key (i / (2 ^ m - 1)) (i % (2 ^ m - 1))
  rw [Nat.mul_comm, Nat.mod_add_div] at this
  exact this.symm

theorem maskTo_bit (a : Nat) : ∀ k x acc, (maskTo p m k x acc).testBit a = true → acc.testBit a = true ∨ ∃ i, i < k ∧ it p m x i = a := by
  intro k
  induction k with
  | zero => intro x acc h; exact .inl h
  | succ k ih =>
    intro x acc h
    rcases ih _ _ h with h1 | ⟨i, hi, h1⟩
    · rw [Nat.testBit_or, Bool.or_eq_true] at h1
      rcases h1 with h1 | h1
      · exact .inl h1
      · rw [Nat.one_shiftLeft, Nat.testBit_two_pow] at h1
        exact .inr ⟨0, by omega, by simpa [it] using h1⟩
    · refine .inr ⟨i + 1, by omega, ?_⟩
      rw [← h1]
      have := it_add (p := p) (m := m) x 1 i
      rw [Nat.add_comm 1 i] at this
      exact this.symm

/-- Each element but 0 is a power of the unknown. -/
theorem ex_surj (h : IsGF p m) {a : Nat} (h0 : 0 < a) (ha : a < 2 ^ m) : ∃ i, i < 2 ^ m - 1 ∧ ex p m i = a := by
  have hb : (maskTo p m (2 ^ m - 1) 1 0).testBit a = true := by
    rw [h.mask, Nat.testBit_two_pow_sub_succ (by exact Nat.one_lt_two_pow (by have := one_lt h; omega))]
    have : Nat.testBit 1 a = false := by
      rw [show (1 : Nat) = 2 ^ 0 from rfl, Nat.testBit_two_pow]; simp; omega
    simp [ha, this]
  rcases maskTo_bit a _ _ _ hb with h1 | ⟨i, hi, h1⟩
  · simp at h1
  · exact ⟨i, hi, by rw [ex_it]; exact h1⟩

theorem mx_eq_zero (h : IsGF p m) {w : Nat} (hw : mx p m w = 0) : w = 0 := by
  unfold mx at hw
  split at hw
  · have : 2 * w = p := xor_zero_iff hw
    have := h.odd
    omega
  · omega
theorem mx_inj (h : IsGF p m) {u v : Nat} (hu : u < 2 ^ m) (hv : v < 2 ^ m) (he : mx p m u = mx p m v) : u = v := by
  have e : mx p m (u ^^^ v) = 0 := by rw [mx_xor h hu hv, he, Nat.xor_self]
  exact xor_zero_iff (mx_eq_zero h e)
theorem it_inj (h : IsGF p m) {u v : Nat} (hu : u < 2 ^ m) (hv : v < 2 ^ m) (i : Nat) (he : it p m u i = it p m v i) : u = v := by
  induction i with
  | zero => exact he
  | succ i ih => exact ih (mx_inj h (it_lt h hu i) (it_lt h hv i) he)
theorem noOne_all : ∀ k x, noOne p m k x = true → ∀ i, i < k → it p m x i ≠ 1 := by
  intro k
  induction k with
  | zero => intro x _ i hi; omega
  | succ k ih =>
    intro x hx i hi
    simp only [noOne, Bool.and_eq_true, bne_iff_ne] at hx
    rcases i with _ | i
    · exact hx.1
    · have := ih _ hx.2 i (by omega)
      have e := it_add (p := p) (m := m) x 1 i
      rw [Nat.add_comm 1 i] at e
      rw [← e]
      exact this
theorem ex_ne_one (h : IsGF p m) {i : Nat} (h0 : 0 < i) (hi : i < 2 ^ m - 1) : ex p m i ≠ 1 := by
  have := noOne_all _ _ h.ones (i - 1) (by omega)
  have e := it_add (p := p) (m := m) 1 1 (i - 1)
  rw [show 1 + (i - 1) = i from by omega] at e
  rw [ex_it, ← e]
  exact this
theorem ex_inj (h : IsGF p m) {i j : Nat} (hi : i < 2 ^ m - 1) (hj : j < 2 ^ m - 1) (he : ex p m i = ex p m j) : i = j := by
  have key : ∀ i j, i < j → j < 2 ^ m - 1 → ex p m i ≠ ex p m j := by
    intro i j hij hj he
    have e := it_add (p := p) (m := m) 1 (j - i) i
    rw [show j - i + i = j from by omega] at e
    rw [ex_it, ex_it, ← e] at he
    have := it_inj h (one_lt h) (it_lt h (one_lt h) _) i he
    exact ex_ne_one h (i := j - i) (by omega) (by omega) (by rw [ex_it]; exact this.symm)
  rcases Nat.lt_trichotomy i j with h1 | h1 | h1
  · exact absurd he (key i j h1 hj)
  · exact h1
  · exact absurd he.symm (key j i h1 hi)
theorem ex_pos (h : IsGF p m) (i : Nat) : 0 < ex p m i := by
  induction i with
  | zero => exact Nat.one_pos
  | succ i ih =>
    rcases Nat.eq_zero_or_pos (ex p m (i + 1)) with h0 | h0
    · have := mx_eq_zero h (show mx p m (ex p m i) = 0 from h0); omega
    · exact h0

theorem gm_zero (a : Nat) : gm p m a 0 = 0 := gmF_zero p m a m
theorem zero_gm (b : Nat) : gm p m 0 b = 0 := gmF_of_zero p m m b
theorem gm_comm (h : IsGF p m) {a b : Nat} (ha : a < 2 ^ m) (hb : b < 2 ^ m) : gm p m a b = gm p m b a := by
  rcases Nat.eq_zero_or_pos a with h0 | h0
  · rw [h0, zero_gm, gm_zero]
  rcases Nat.eq_zero_or_pos b with h1 | h1
  · rw [h1, zero_gm, gm_zero]
  obtain ⟨i, _, rfl⟩ := ex_surj h h0 ha
  obtain ⟨j, _, rfl⟩ := ex_surj h h1 hb
  rw [gm_exex h, gm_exex h, Nat.add_comm]
theorem gm_assoc (h : IsGF p m) {a b c : Nat} (ha : a < 2 ^ m) (hb : b < 2 ^ m) (hc : c < 2 ^ m) : gm p m (gm p m a b) c = gm p m a (gm p m b c) := by
  rcases Nat.eq_zero_or_pos a with h0 | h0
  · rw [h0, zero_gm, zero_gm, zero_gm]
  rcases Nat.eq_zero_or_pos b with h1 | h1
  · rw [h1, gm_zero, zero_gm, gm_zero]
  rcases Nat.eq_zero_or_pos c with h2 | h2
  · rw [h2, gm_zero, gm_zero, gm_zero]
  obtain ⟨i, _, rfl⟩ := ex_surj h h0 ha
  obtain ⟨j, _, rfl⟩ := ex_surj h h1 hb
  obtain ⟨k, _, rfl⟩ := ex_surj h h2 hc
  rw [gm_exex h, gm_exex h, gm_exex h, gm_exex h, Nat.add_assoc]
theorem gm_left (h : IsGF p m) {a b c : Nat} (ha : a < 2 ^ m) (hb : b < 2 ^ m) : gm p m (a ^^^ b) c = gm p m a c ^^^ gm p m b c := gmF_left h ha hb _ _
theorem one_gm (h : IsGF p m) {a : Nat} (ha : a < 2 ^ m) : gm p m 1 a = a := by rw [gm_comm h (one_lt h) ha, gm_one h]
/-- A product is zero where a factor is. -/
theorem gm_eq_zero (h : IsGF p m) {a b : Nat} (ha : a < 2 ^ m) (hb : b < 2 ^ m) (he : gm p m a b = 0) : a = 0 ∨ b = 0 := by
  rcases Nat.eq_zero_or_pos a with h0 | h0
  · exact .inl h0
  rcases Nat.eq_zero_or_pos b with h1 | h1
  · exact .inr h1
  obtain ⟨i, _, rfl⟩ := ex_surj h h0 ha
  obtain ⟨j, _, rfl⟩ := ex_surj h h1 hb
  rw [gm_exex h] at he
  have := ex_pos h (i + j)
  omega
end
end Go.Proofs.Ytpkmknbmjlnkgaa
