/- The least rectangle around bits, the first and the last bit. Plain Lean. -/
import Derived.Test.YtmaghlckgfihcaaBitL
namespace Go.Proofs.Ytmaghlckgfihcaa
open Go.RowKit
set_option linter.unusedVariables false

/-- The least and greatest of what is true. -/
theorem least_of (P : Nat → Prop) : ∀ n, P n → ∃ m, m ≤ n ∧ P m ∧ ∀ i, i < m → ¬ P i := by
  intro n
  induction n using Nat.strongRecOn with
  | ind n ih =>
    intro h
    by_cases hx : ∃ i, i < n ∧ P i
    · obtain ⟨i, hi, hp⟩ := hx
      obtain ⟨m, h1, h2, h3⟩ := ih i hi hp
      exact ⟨m, by omega, h2, h3⟩
    · exact ⟨n, Nat.le_refl _, h, fun i hi hp => hx ⟨i, hi, hp⟩⟩
theorem most_of (P : Nat → Prop) (N : Nat) (hN : ∀ i, P i → i < N) (n : Nat) (h : P n) : ∃ m, P m ∧ ∀ i, P i → i ≤ m := by
  obtain ⟨d, _, h2, h3⟩ := least_of (fun d => ∃ m, m + d = N ∧ P m) (N - n) ⟨n, by have := hN n h; omega, h⟩
  obtain ⟨m, hm, hp⟩ := h2
  refine ⟨m, hp, fun i hi => ?_⟩
  rcases Nat.lt_or_ge m i with h4 | h4
  · exfalso
    have := hN i hi
    exact h3 (N - i) (by omega) ⟨i, by omega, hi⟩
  · exact h4
theorem bits_lt {w i : Nat} (hw : w < 4294967296) (h : w.testBit i = true) : i < 32 := by
  rcases Nat.lt_or_ge i 32 with h1 | h1
  · exact h1
  · rw [Nat.testBit_lt_two_pow (Nat.lt_of_lt_of_le (show w < 2 ^ 32 by omega) (Nat.pow_le_pow_right (by omega) h1))] at h
    simp at h
/-- The lowest and the highest bit of a word. -/
theorem low_bit {w : Nat} (hw : w < 4294967296) (h0 : w ≠ 0) : ∃ lo, lo < 32 ∧ w.testBit lo = true ∧ ∀ i, i < lo → w.testBit i = false := by
  obtain ⟨i, hi⟩ := Nat.exists_testBit_of_ne_zero h0
  obtain ⟨m, _, h2, h3⟩ := least_of (fun i => w.testBit i = true) i hi
  exact ⟨m, bits_lt hw h2, h2, fun j hj => by simpa using h3 j hj⟩
theorem high_bit {w : Nat} (hw : w < 4294967296) (h0 : w ≠ 0) : ∃ hi, hi < 32 ∧ w.testBit hi = true ∧ ∀ i, w.testBit i = true → i ≤ hi := by
  obtain ⟨i, hi⟩ := Nat.exists_testBit_of_ne_zero h0
  obtain ⟨m, h2, h3⟩ := most_of (fun i => w.testBit i = true) 32 (fun j hj => bits_lt hw hj) i hi
  exact ⟨m, bits_lt hw h2, h2, h3⟩
theorem shl_zero {w lo i : Nat} (h : ∀ j, j < lo → w.testBit j = false) (hi : i < lo) (hi31 : i ≤ 31) : w * 2 ^ (31 - i) % 4294967296 = 0 := by
  have e : w % 2 ^ (i + 1) = 0 := by
    apply Nat.eq_of_testBit_eq
    intro j
    rw [Nat.testBit_mod_two_pow, Nat.zero_testBit]
    by_cases hj : j < i + 1
    · rw [h j (by omega)]; simp
    · simp [hj]
  have e2 : (4294967296 : Nat) = 2 ^ (i + 1) * 2 ^ (31 - i) := by rw [← Nat.pow_add, show i + 1 + (31 - i) = 32 from by omega]
  rw [e2, Nat.mul_mod_mul_right, e, Nat.zero_mul]
theorem shl_ne {w lo : Nat} (h : w.testBit lo = true) (hl : lo < 32) : w * 2 ^ (31 - lo) % 4294967296 ≠ 0 := by
  have e2 : (4294967296 : Nat) = 2 ^ (lo + 1) * 2 ^ (31 - lo) := by rw [← Nat.pow_add, show lo + 1 + (31 - lo) = 32 from by omega]
  rw [e2, Nat.mul_mod_mul_right]
  intro e
  have hp := Nat.two_pow_pos (31 - lo)
  rcases Nat.mul_eq_zero.1 e with h1 | h1
  · have h3 : (w % 2 ^ (lo + 1)).testBit lo = true := by rw [Nat.testBit_mod_two_pow, h]; simp
    rw [h1] at h3
    simp at h3
  · omega
theorem shr_zero {w hi j : Nat} (h : ∀ i, w.testBit i = true → i ≤ hi) (hj : hi < j) : w / 2 ^ j = 0 := by
  refine Nat.div_eq_of_lt (Nat.lt_pow_two_of_testBit _ fun i hi2 => ?_)
  cases hb : w.testBit i with
  | false => rfl
  | true => have := h i hb; omega
theorem shr_ne {w hi : Nat} (h : w.testBit hi = true) : w / 2 ^ hi ≠ 0 := by
  have h1 := Nat.ge_two_pow_of_testBit h
  have := Nat.div_pos h1 (Nat.two_pow_pos hi)
  omega

/-- The least rectangle with all that is in S. -/
structure IsBox (S : Nat → Nat → Prop) (l t r b : Nat) : Prop where
  all : ∀ x y, S x y → l ≤ x ∧ x ≤ r ∧ t ≤ y ∧ y ≤ b
  hl : ∃ y, S l y
  ht : ∃ x, S x t
  hr : ∃ y, S r y
  hb : ∃ x, S x b
theorem IsBox.uniq {S : Nat → Nat → Prop} {l t r b l' t' r' b' : Nat} (h : IsBox S l t r b) (h' : IsBox S l' t' r' b') : l = l' ∧ t = t' ∧ r = r' ∧ b = b' := by
  obtain ⟨y1, a1⟩ := h.hl
  obtain ⟨y2, a2⟩ := h'.hl
  obtain ⟨y3, a3⟩ := h.ht
  obtain ⟨y4, a4⟩ := h'.ht
  obtain ⟨y5, a5⟩ := h.hr
  obtain ⟨y6, a6⟩ := h'.hr
  obtain ⟨y7, a7⟩ := h.hb
  obtain ⟨y8, a8⟩ := h'.hb
  have := h'.all _ _ a1
  have := h.all _ _ a2
  have := h'.all _ _ a3
  have := h.all _ _ a4
  have := h'.all _ _ a5
  have := h.all _ _ a6
  have := h'.all _ _ a7
  have := h.all _ _ a8
  omega
theorem IsBox.congr {S T : Nat → Nat → Prop} {l t r b : Nat} (h : IsBox S l t r b) (e : ∀ x y, S x y ↔ T x y) : IsBox T l t r b := by
  have : S = T := by funext x y; exact propext (e x y)
  rw [← this]; exact h
/-- What the list of a rectangle is. -/
def BoxRes (S : Nat → Nat → Prop) (L : List Nat) : Prop := (L = [] ∧ ∀ x y, ¬ S x y) ∨ ∃ l t r b, IsBox S l t r b ∧ L = [l, t, r - l + 1, b - t + 1]
theorem BoxRes.uniq {S : Nat → Nat → Prop} {L M : List Nat} (h : BoxRes S L) (h' : BoxRes S M) : L = M := by
  rcases h with ⟨rfl, h1⟩ | ⟨l, t, r, b, h1, rfl⟩
  · rcases h' with ⟨rfl, _⟩ | ⟨l, t, r, b, h2, _⟩
    · rfl
    · obtain ⟨y, hy⟩ := h2.hl
      exact absurd hy (h1 _ _)
  · rcases h' with ⟨_, h2⟩ | ⟨l', t', r', b', h2, rfl⟩
    · obtain ⟨y, hy⟩ := h1.hl
      exact absurd hy (h2 _ _)
    · obtain ⟨rfl, rfl, rfl, rfl⟩ := h1.uniq h2
      rfl
/-- The first, row by row; the last. -/
def FirstRes (S : Nat → Nat → Prop) (L : List Nat) : Prop := (L = [] ∧ ∀ x y, ¬ S x y) ∨ ∃ x y, S x y ∧ (∀ a b, S a b → y < b ∨ (y = b ∧ x ≤ a)) ∧ L = [x, y]
def LastRes (S : Nat → Nat → Prop) (L : List Nat) : Prop := (L = [] ∧ ∀ x y, ¬ S x y) ∨ ∃ x y, S x y ∧ (∀ a b, S a b → b < y ∨ (b = y ∧ a ≤ x)) ∧ L = [x, y]
theorem FirstRes.uniq {S : Nat → Nat → Prop} {L M : List Nat} (h : FirstRes S L) (h' : FirstRes S M) : L = M := by
  rcases h with ⟨rfl, h1⟩ | ⟨x, y, h1, h3, rfl⟩
  · rcases h' with ⟨rfl, _⟩ | ⟨x, y, h2, _⟩
    · rfl
    · exact absurd h2 (h1 _ _)
  · rcases h' with ⟨_, h2⟩ | ⟨x', y', h2, h4, rfl⟩
    · exact absurd h1 (h2 _ _)
    · have := h3 _ _ h2
      have := h4 _ _ h1
      obtain ⟨rfl, rfl⟩ : x = x' ∧ y = y' := by omega
      rfl
theorem LastRes.uniq {S : Nat → Nat → Prop} {L M : List Nat} (h : LastRes S L) (h' : LastRes S M) : L = M := by
  rcases h with ⟨rfl, h1⟩ | ⟨x, y, h1, h3, rfl⟩
  · rcases h' with ⟨rfl, _⟩ | ⟨x, y, h2, _⟩
    · rfl
    · exact absurd h2 (h1 _ _)
  · rcases h' with ⟨_, h2⟩ | ⟨x', y', h2, h4, rfl⟩
    · exact absurd h1 (h2 _ _)
    · have := h3 _ _ h2
      have := h4 _ _ h1
      obtain ⟨rfl, rfl⟩ : x = x' ∧ y = y' := by omega
      rfl

/-- The bits that are set. -/
def OnB (R : Nat → Nat → Bool) (W H : Nat) : Nat → Nat → Prop := fun x y => x < W ∧ y < H ∧ R y x = true
/-- Those ahead of row y, column x. -/
def Seen (R : Nat → Nat → Bool) (W H y x : Nat) : Nat → Nat → Prop := fun a b => OnB R W H a b ∧ (b < y ∨ (b = y ∧ a < x))
/-- The rectangle of what was seen. -/
def BoxVal (S : Nat → Nat → Prop) (l t r b : Int) : Prop := ∃ l' t' r' b' : Nat, l = l' ∧ t = t' ∧ r = r' ∧ b = b' ∧ IsBox S l' t' r' b'
/-- What the scans hold: nothing seen, or the rectangle of what was seen. -/
def BoxSt (S : Nat → Nat → Prop) (l0 t0 : Int) (l t r b : Int) : Prop := (l = l0 ∧ t = t0 ∧ r = -1 ∧ b = -1 ∧ ∀ x y, ¬ S x y) ∨ BoxVal S l t r b
theorem BoxSt.congr {S T : Nat → Nat → Prop} {l0 t0 l t r b : Int} (h : BoxSt S l0 t0 l t r b) (e : ∀ x y, S x y ↔ T x y) : BoxSt T l0 t0 l t r b := by
  have : S = T := by funext x y; exact propext (e x y)
  rw [← this]; exact h
theorem BoxVal.eq {S : Nat → Nat → Prop} {l t r b l2 t2 r2 b2 : Int} (h : BoxVal S l t r b) (e1 : l = l2) (e2 : t = t2) (e3 : r = r2) (e4 : b = b2) : BoxVal S l2 t2 r2 b2 := by
  rw [← e1, ← e2, ← e3, ← e4]; exact h
/-- More is seen: at rows y, from x0 to x1, both set. -/
theorem BoxSt.more {S T : Nat → Nat → Prop} {l0 t0 l t r b : Int} (h : BoxSt S l0 t0 l t r b) (x0 x1 y : Nat) (hl0 : (x0 : Int) ≤ l0) (ht0 : (y : Int) ≤ t0) (h0 : T x0 y) (h1 : T x1 y) (hST : ∀ a c, S a c → T a c) (hTS : ∀ a c, T a c → S a c ∨ (c = y ∧ x0 ≤ a ∧ a ≤ x1)) :
    BoxVal T (if (x0 : Int) < l then (x0 : Int) else l) (if (y : Int) < t then (y : Int) else t) (if r < (x1 : Int) then (x1 : Int) else r) (if b < (y : Int) then (y : Int) else b) := by
  rcases h with ⟨rfl, rfl, rfl, rfl, hn⟩ | ⟨l', t', r', b', rfl, rfl, rfl, rfl, hb⟩
  · have hT : ∀ a c, T a c → c = y ∧ x0 ≤ a ∧ a ≤ x1 := fun a c hh => (hTS a c hh).resolve_left (hn a c)
    refine ⟨x0, y, x1, y, ?_, ?_, ?_, ?_, ⟨fun a c hh => ?_, ⟨y, h0⟩, ⟨x0, h0⟩, ⟨y, h1⟩, ⟨x0, h0⟩⟩⟩
    · split <;> omega
    · split <;> omega
    · split <;> omega
    · split <;> omega
    · have := hT a c hh; omega
  · refine ⟨min x0 l', min y t', max r' x1, max b' y, ?_, ?_, ?_, ?_, ⟨fun a c hh => ?_, ?_, ?_, ?_, ?_⟩⟩
    · split <;> omega
    · split <;> omega
    · split <;> omega
    · split <;> omega
    · rcases hTS a c hh with h2 | h2
      · have := hb.all _ _ h2; omega
      · omega
    · obtain ⟨z, hz⟩ := hb.hl
      rcases Nat.le_total x0 l' with h2 | h2
      · rw [Nat.min_eq_left h2]; exact ⟨y, h0⟩
      · rw [Nat.min_eq_right h2]; exact ⟨z, hST _ _ hz⟩
    · obtain ⟨z, hz⟩ := hb.ht
      rcases Nat.le_total y t' with h2 | h2
      · rw [Nat.min_eq_left h2]; exact ⟨x0, h0⟩
      · rw [Nat.min_eq_right h2]; exact ⟨z, hST _ _ hz⟩
    · obtain ⟨z, hz⟩ := hb.hr
      rcases Nat.le_total r' x1 with h2 | h2
      · rw [Nat.max_eq_right h2]; exact ⟨y, h1⟩
      · rw [Nat.max_eq_left h2]; exact ⟨z, hST _ _ hz⟩
    · obtain ⟨z, hz⟩ := hb.hb
      rcases Nat.le_total b' y with h2 | h2
      · rw [Nat.max_eq_right h2]; exact ⟨x0, h0⟩
      · rw [Nat.max_eq_left h2]; exact ⟨z, hST _ _ hz⟩

theorem BoxSt.moreNeg {S T : Nat → Nat → Prop} {l t r b : Int} (h : BoxSt S (-1) (-1) l t r b) (x y : Nat) (h0 : T x y) (hST : ∀ a c, S a c → T a c) (hTS : ∀ a c, T a c → S a c ∨ (c = y ∧ x ≤ a ∧ a ≤ x)) (hy : ∀ a c, S a c → c ≤ y) :
    BoxVal T (if l < 0 ∨ (x : Int) < l then (x : Int) else l) (if t < 0 then (y : Int) else t) (if r < (x : Int) then (x : Int) else r) (y : Int) := by
  rcases h with ⟨rfl, rfl, rfl, rfl, hn⟩ | hb
  · have h2 : BoxSt S (x : Int) (y : Int) x y (-1) (-1) := .inl ⟨rfl, rfl, rfl, rfl, hn⟩
    refine (h2.more x x y (Int.le_refl _) (Int.le_refl _) h0 h0 hST hTS).eq ?_ ?_ ?_ ?_
    · split <;> split <;> omega
    · split <;> split <;> omega
    · rfl
    · split <;> omega
  · have h2 : BoxSt S (x : Int) (y : Int) l t r b := .inr hb
    obtain ⟨l', t', r', b', rfl, rfl, rfl, rfl, hb⟩ := hb
    obtain ⟨u1, g1⟩ := hb.ht
    obtain ⟨u2, g2⟩ := hb.hb
    have := hy _ _ g1
    have := hy _ _ g2
    refine (h2.more x x y (Int.le_refl _) (Int.le_refl _) h0 h0 hST hTS).eq ?_ ?_ ?_ ?_
    · split <;> split <;> omega
    · split <;> split <;> omega
    · rfl
    · split <;> omega
theorem BoxVal.bd {R : Nat → Nat → Bool} {W H y x : Nat} {l t r b : Int} (h : BoxVal (Seen R W H y x) l t r b) : 0 ≤ l ∧ l ≤ r ∧ r < W ∧ 0 ≤ t ∧ t ≤ b ∧ b < H ∧ b ≤ y := by
  obtain ⟨l', t', r', b', rfl, rfl, rfl, rfl, hb⟩ := h
  obtain ⟨u1, g1⟩ := hb.hl
  obtain ⟨u2, g2⟩ := hb.hb
  obtain ⟨u3, g3⟩ := hb.hr
  have a1 := hb.all _ _ g1
  have a2 := hb.all _ _ g2
  obtain ⟨⟨c1, c2, _⟩, c4⟩ := g3
  obtain ⟨⟨d1, d2, _⟩, d4⟩ := g2
  omega
theorem seen_off {R : Nat → Nat → Bool} {W H y x : Nat} (hb : R y x = false) (a c : Nat) : Seen R W H y x a c ↔ Seen R W H y (x + 1) a c := by
  unfold Seen OnB
  constructor
  · rintro ⟨h1, h2⟩; exact ⟨h1, by omega⟩
  · rintro ⟨h1, h2⟩
    refine ⟨h1, ?_⟩
    rcases h2 with h2 | ⟨h2, h3⟩
    · exact .inl h2
    · by_cases hx : a = x
      · rw [h2, hx, hb] at h1; simp at h1
      · exact .inr ⟨h2, by omega⟩
theorem seen_row {R : Nat → Nat → Bool} {W H y : Nat} (a c : Nat) : Seen R W H y W a c ↔ Seen R W H (y + 1) 0 a c := by
  unfold Seen OnB
  constructor
  · rintro ⟨h1, h2⟩; exact ⟨h1, by omega⟩
  · rintro ⟨h1, h2⟩
    exact ⟨h1, by omega⟩
theorem seen_all {R : Nat → Nat → Bool} {W H : Nat} (a c : Nat) : Seen R W H H 0 a c ↔ OnB R W H a c := by
  unfold Seen OnB
  constructor
  · exact fun h => h.1
  · rintro ⟨h1, h2, h3⟩; exact ⟨⟨h1, h2, h3⟩, by omega⟩
theorem seen_on {R : Nat → Nat → Bool} {W H y x : Nat} (a c : Nat) (h : Seen R W H y (x + 1) a c) : Seen R W H y x a c ∨ (c = y ∧ x ≤ a ∧ a ≤ x) := by
  obtain ⟨h1, h2⟩ := h
  rcases h2 with h2 | ⟨h2, h3⟩
  · exact .inl ⟨h1, .inl h2⟩
  · by_cases hx : a = x
    · exact .inr ⟨h2, by omega, by omega⟩
    · exact .inl ⟨h1, .inr ⟨h2, by omega⟩⟩
theorem seen_sub {R : Nat → Nat → Bool} {W H y x x' : Nat} (hx : x ≤ x') (a c : Nat) (h : Seen R W H y x a c) : Seen R W H y x' a c := ⟨h.1, by have := h.2; omega⟩
/-- What the scan ends with. -/
theorem BoxSt.done {R : Nat → Nat → Bool} {W H : Nat} {l0 t0 l t r b : Int} (h : BoxSt (Seen R W H H 0) l0 t0 l t r b) : (l = l0 ∧ t = t0 ∧ r = -1 ∧ b = -1 ∧ BoxRes (OnB R W H) []) ∨ ∃ l' t' r' b' : Nat, l = l' ∧ t = t' ∧ r = r' ∧ b = b' ∧ l' ≤ r' ∧ t' ≤ b' ∧ r' < W ∧ b' < H ∧ BoxRes (OnB R W H) [l', t', r' - l' + 1, b' - t' + 1] := by
  rcases h with ⟨h1, h2, h3, h4, hn⟩ | hv
  · exact .inl ⟨h1, h2, h3, h4, .inl ⟨rfl, fun x y hh => hn x y ((seen_all x y).2 hh)⟩⟩
  · have hbd := hv.bd
    obtain ⟨l', t', r', b', rfl, rfl, rfl, rfl, hb⟩ := hv
    exact .inr ⟨l', t', r', b', rfl, rfl, rfl, rfl, by omega, by omega, by omega, by omega, .inr ⟨l', t', r', b', hb.congr seen_all, rfl⟩⟩
end Go.Proofs.Ytmaghlckgfihcaa
