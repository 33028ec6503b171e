/- Pictures that are turned over, left and right, light and dark: plain. -/
namespace Go.Proofs.Ytkonepeejhgloaa
set_option linter.unusedVariables false
/-- The place that is exchanged with k in rows of w. -/
def mir (w k : Nat) : Nat := k / w * w + (w - 1 - k % w)
theorem mir_lt {w h k : Nat} (hw : 1 ≤ w) (hk : k < w * h) : mir w k < w * h := by
  unfold mir
  have h1 : k / w < h := Nat.div_lt_of_lt_mul hk
  have h2 : k / w * w + w ≤ w * h := by
    have : (k / w + 1) * w ≤ h * w := Nat.mul_le_mul_right w h1
    rw [Nat.add_mul, Nat.one_mul, Nat.mul_comm h w] at this
    exact this
  have : k % w < w := Nat.mod_lt _ (by omega)
  omega
theorem mir_div {w k : Nat} (hw : 1 ≤ w) : mir w k / w = k / w ∧ mir w k % w = w - 1 - k % w := by
  unfold mir
  have h : w - 1 - k % w < w := by omega
  constructor
  · rw [Nat.mul_comm, Nat.mul_add_div (by omega), Nat.div_eq_of_lt h, Nat.add_zero]
  · rw [Nat.mul_comm, Nat.mul_add_mod, Nat.mod_eq_of_lt h]
theorem mir_mir {w k : Nat} (hw : 1 ≤ w) : mir w (mir w k) = k := by
  obtain ⟨h1, h2⟩ := mir_div (k := k) hw
  have h3 : mir w (mir w k) = mir w k / w * w + (w - 1 - mir w k % w) := rfl
  rw [h3, h1, h2]
  have := Nat.mod_lt k (show 0 < w by omega)
  have := Nat.div_add_mod k w
  rw [Nat.mul_comm] at this
  omega
/-- What stands at k when y rows and t pairs of the next one have been exchanged. -/
def turned (w y t : Nat) (px : Nat → Nat) (k : Nat) : Nat :=
  if k / w < y ∨ (k / w = y ∧ (k % w < t ∨ w - 1 - k % w < t)) then px (mir w k) else px k
theorem turned_pos {w y t : Nat} {px : Nat → Nat} {k : Nat} (h : k / w < y ∨ (k / w = y ∧ (k % w < t ∨ w - 1 - k % w < t))) : turned w y t px k = px (mir w k) := if_pos h
theorem turned_neg {w y t : Nat} {px : Nat → Nat} {k : Nat} (h : ¬ (k / w < y ∨ (k / w = y ∧ (k % w < t ∨ w - 1 - k % w < t)))) : turned w y t px k = px k := if_neg h
theorem turned_zero (w : Nat) (px : Nat → Nat) (k : Nat) : turned w 0 0 px k = px k := turned_neg (by generalize k / w = q; generalize k % w = r; omega)
theorem turned_all (w h : Nat) (px : Nat → Nat) (k : Nat) (hk : k < w * h) : turned w h 0 px k = px (mir w k) := turned_pos (.inl (Nat.div_lt_of_lt_mul hk))
theorem turned_row (w y : Nat) (hw : 1 ≤ w) (px : Nat → Nat) (k : Nat) : turned w y (w / 2) px k = turned w (y + 1) 0 px k := by
  have hm := Nat.mod_lt k (show 0 < w by omega)
  by_cases hlt : k / w < y
  · rw [turned_pos (.inl hlt), turned_pos (.inl (show k / w < y + 1 by omega))]
  · by_cases he : k / w = y
    · rw [turned_pos (y := y + 1) (.inl (show k / w < y + 1 by omega))]
      by_cases h2 : k % w < w / 2 ∨ w - 1 - k % w < w / 2
      · rw [turned_pos (.inr ⟨he, h2⟩)]
      · rw [turned_neg (by rintro (h | ⟨_, h⟩); exact hlt h; exact h2 h)]
        have : mir w k = k := by
          unfold mir
          have hd := Nat.div_add_mod k w
          rw [Nat.mul_comm] at hd
          generalize k / w * w = q at *
          generalize k % w = r at *
          omega
        rw [this]
    · rw [turned_neg (by rintro (h | ⟨h, _⟩); exact hlt h; exact he h), turned_neg (by rintro (h | ⟨h, h3 | h3⟩); omega; omega; omega)]
theorem at_row (w y j : Nat) (hj : j < w) : (y * w + j) / w = y ∧ (y * w + j) % w = j := by
  constructor
  · rw [Nat.mul_comm, Nat.mul_add_div (by omega), Nat.div_eq_of_lt hj, Nat.add_zero]
  · rw [Nat.mul_comm, Nat.mul_add_mod, Nat.mod_eq_of_lt hj]
theorem turned_left (w y t : Nat) (px : Nat → Nat) (ht : t < w / 2) : turned w y t px (y * w + t) = px (y * w + t) ∧ turned w y t px (y * w + (w - 1 - t)) = px (y * w + (w - 1 - t)) := by
  obtain ⟨a1, a2⟩ := at_row w y t (by omega)
  obtain ⟨b1, b2⟩ := at_row w y (w - 1 - t) (by omega)
  constructor
  · exact turned_neg (by rw [a1, a2]; omega)
  · exact turned_neg (by rw [b1, b2]; omega)
theorem turned_step (w y t : Nat) (px : Nat → Nat) (ht : t < w / 2) (k : Nat) :
    turned w y (t + 1) px k = if k = y * w + t then px (y * w + (w - 1 - t)) else if k = y * w + (w - 1 - t) then px (y * w + t) else turned w y t px k := by
  obtain ⟨a1, a2⟩ := at_row w y t (by omega)
  obtain ⟨b1, b2⟩ := at_row w y (w - 1 - t) (by omega)
  by_cases hk : k = y * w + t
  · rw [if_pos hk]
    subst hk
    rw [turned_pos (.inr ⟨a1, .inl (by rw [a2]; omega)⟩)]
    unfold mir
    rw [a1, a2]
  · rw [if_neg hk]
    by_cases hk2 : k = y * w + (w - 1 - t)
    · rw [if_pos hk2]
      subst hk2
      rw [turned_pos (.inr ⟨b1, .inr (by rw [b2]; omega)⟩)]
      unfold mir
      rw [b1, b2, show w - 1 - (w - 1 - t) = t by omega]
    · rw [if_neg hk2]
      have hd := Nat.div_add_mod k w
      rw [Nat.mul_comm] at hd
      have hm := Nat.mod_lt k (show 0 < w by omega)
      by_cases hy : k / w = y
      · rw [hy] at hd
        have e1 : k % w ≠ t := fun h => hk (by rw [← hd, h])
        have e2 : w - 1 - k % w ≠ t := fun h => hk2 (by rw [← hd]; omega)
        by_cases hc : k % w < t ∨ w - 1 - k % w < t
        · rw [turned_pos (.inr ⟨hy, by omega⟩), turned_pos (.inr ⟨hy, hc⟩)]
        · rw [turned_neg (by rintro (h | ⟨_, h⟩) <;> omega), turned_neg (by rintro (h | ⟨_, h⟩) <;> omega)]
      · by_cases hlt : k / w < y
        · rw [turned_pos (.inl hlt), turned_pos (.inl hlt)]
        · rw [turned_neg (by rintro (h | ⟨h, _⟩); exact hlt h; exact hy h), turned_neg (by rintro (h | ⟨h, _⟩); exact hlt h; exact hy h)]
end Go.Proofs.Ytkonepeejhgloaa
