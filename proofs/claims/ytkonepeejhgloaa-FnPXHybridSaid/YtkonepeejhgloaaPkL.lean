/- The bound between dark and light of 32 counts, as the program reckons it. Plain. -/
import Derived.WalkKit
namespace Go.Proofs.Ytkonepeejhgloaa

/-- The first of the tallest of the first k, and how tall. -/
def pkA (c : Nat → Nat) : Nat → Nat × Nat
  | 0 => (0, 0)
  | k + 1 => if (pkA c k).2 < c k then (k, c k) else pkA c k
/-- The one that is tall and far from p. -/
def dsq (k p : Nat) : Nat := (k - p) * (k - p) + (p - k) * (p - k)
def pkB (c : Nat → Nat) (p : Nat) : Nat → Nat × Nat
  | 0 => (0, 0)
  | k + 1 => if (pkB c p k).2 < c k * dsq k p then (k, c k * dsq k p) else pkB c p k
/-- The valley: after t places down from hi - 1. -/
def vlS (c : Nat → Nat) (lo hi m x : Nat) : Nat := (x - lo) * (x - lo) * (hi - x) * (m - c x)
def pkV (c : Nat → Nat) (lo hi m : Nat) : Nat → Nat × Int
  | 0 => (hi - 1, -1)
  | t + 1 => if (pkV c lo hi m t).2 < (vlS c lo hi m (hi - 1 - t) : Int) then (hi - 1 - t, (vlS c lo hi m (hi - 1 - t) : Int)) else pkV c lo hi m t
/-- The bound; none, where there is too little contrast. -/
def bound (c : Nat → Nat) : Option Nat :=
  let p := (pkA c 32).1
  let q := (pkB c p 32).1
  let lo := min p q
  let hi := max p q
  if hi - lo ≤ 2 then none else some ((pkV c lo hi (pkA c 32).2 (hi - 1 - lo)).1 * 8)

theorem pkA_le (c : Nat → Nat) {M : Nat} (h : ∀ k, c k ≤ M) : ∀ k, (pkA c k).2 ≤ M ∧ (∀ j, j < k → c j ≤ (pkA c k).2) ∧ ((pkA c k).1 < 32 ∨ 32 < k) ∧ ((pkA c k).1 < k ∨ (pkA c k).1 = 0) := by
  intro k
  induction k with
  | zero => exact ⟨by simp [pkA], fun j hj => by omega, .inl (by simp [pkA]), .inr rfl⟩
  | succ k ih =>
    obtain ⟨h1, h2, h3, h4⟩ := ih
    rw [pkA]
    split
    · rename_i hg
      refine ⟨h k, fun j hj => ?_, ?_, .inl (by simp)⟩
      · by_cases e : j = k
        · rw [e]; exact Nat.le_refl _
        · have := h2 j (by omega); simp only; omega
      · simp only; omega
    · rename_i hg
      refine ⟨h1, fun j hj => ?_, by omega, by omega⟩
      by_cases e : j = k
      · rw [e]; omega
      · exact h2 j (by omega)
theorem dsq_le {k p : Nat} (hk : k < 32) (hp : p < 32) : dsq k p ≤ 961 := by
  unfold dsq
  have h1 : k - p ≤ 31 := by omega
  have h2 : p - k ≤ 31 := by omega
  have h3 := Nat.mul_le_mul h1 h1
  have h4 := Nat.mul_le_mul h2 h2
  rcases Nat.le_total k p with h | h
  · rw [show k - p = 0 from by omega, Nat.zero_mul]; omega
  · rw [show p - k = 0 from by omega, Nat.zero_mul]; omega
theorem pkB_le (c : Nat → Nat) (p : Nat) : ∀ k, (pkB c p k).1 < k ∨ (pkB c p k).1 = 0 := by
  intro k
  induction k with
  | zero => exact .inr rfl
  | succ k ih =>
    rw [pkB]
    split
    · exact .inl (by simp)
    · omega
/-- Two groups alone, and the far ones: there is a bound. -/
theorem bound_far (c : Nat → Nat) (h0 : 0 < c 0) (h31 : 0 < c 31) (hz : ∀ k, 0 < k → k < 31 → c k = 0) : bound c ≠ none := by
  have hA : ∀ k, 1 ≤ k → k ≤ 31 → pkA c k = (0, c 0) := by
    intro k
    induction k with
    | zero => intro h; omega
    | succ k ih =>
      intro _ hk
      rw [pkA]
      rcases Nat.eq_zero_or_pos k with rfl | h1
      · rw [if_pos (by simpa [pkA] using h0)]
      · rw [ih h1 (by omega), hz k h1 (by omega), if_neg (by simp)]
  have hA31 := hA 31 (by omega) (by omega)
  unfold bound
  have hp : pkA c 32 = if c 0 < c 31 then (31, c 31) else (0, c 0) := by
    rw [pkA, hA31]
  by_cases hlt : c 0 < c 31
  · rw [hp, if_pos hlt]
    have hB : ∀ k, 1 ≤ k → k ≤ 32 → pkB c 31 k = (0, c 0 * 961) := by
      intro k
      induction k with
      | zero => intro h; omega
      | succ k ih =>
        intro _ hk
        rw [pkB]
        rcases Nat.eq_zero_or_pos k with rfl | h1
        · rw [if_pos (by simp only [pkB, dsq]; omega)]; rfl
        · rw [ih h1 (by omega), if_neg]
          rcases Nat.lt_or_ge k 31 with h2 | h2
          · rw [hz k h1 h2]; simp
          · obtain rfl : k = 31 := by omega
            simp [dsq]
    simp only [hB 32 (by omega) (by omega)]
    simp
  · rw [hp, if_neg hlt]
    have hB : ∀ k, k ≤ 31 → pkB c 0 k = (0, 0) := by
      intro k
      induction k with
      | zero => intro _; rfl
      | succ k ih =>
        intro hk
        rw [pkB, ih (by omega), if_neg]
        rcases Nat.eq_zero_or_pos k with rfl | h1
        · simp [dsq]
        · rw [hz k h1 (by omega)]; simp
    have hB32 : pkB c 0 32 = (31, c 31 * dsq 31 0) := by
      rw [pkB, hB 31 (by omega), if_pos]
      simp [dsq]; omega
    simp only [hB32]
    simp
end Go.Proofs.Ytkonepeejhgloaa
