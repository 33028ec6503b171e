/- Plain facts of the two tables. -/
import Derived.Test.YtfmjkflihnfneaaDmT
namespace Go.Proofs.Ytfmjkflihnfneaa
set_option linter.unusedVariables false
/-- Whether row k of the code's table is taken for so many words of a shape. -/
def rowFits (words shape k : Nat) : Bool := !(shape == 1 && inn k 0 == 1) && !(shape == 2 && !(inn k 0 == 1)) && decide (words ≤ inn k 1)
/-- The blocks of row k. -/
def blk (k : Nat) : Nat := if k = 29 then 10 else inn k 1 / inn k 6
def allK (p : Nat → Bool) : Bool := (List.range 30).all p
theorem allK_at {p : Nat → Bool} (h : allK p = true) (k : Nat) (hk : k < 30) : p k = true := List.all_eq_true.1 h k (List.mem_range.2 hk)
theorem inn_dr (k : Nat) (hk : k < 30) : inn k 5 = 1 ∨ inn k 5 = 2 ∨ inn k 5 = 4 ∨ inn k 5 = 16 ∨ inn k 5 = 36 := by
  have h := allK_at (p := fun k => decide (inn k 5 = 1 ∨ inn k 5 = 2 ∨ inn k 5 = 4 ∨ inn k 5 = 16 ∨ inn k 5 = 36)) (by decide +kernel) k hk
  exact of_decide_eq_true h
theorem inn_bd (k : Nat) (hk : k < 30) : inn k 1 ≤ 2000 ∧ 1 ≤ inn k 1 ∧ inn k 2 ≤ 1000 ∧ inn k 3 ≤ 1000 ∧ inn k 4 ≤ 1000 ∧ inn k 6 ≤ 2000 ∧ (k < 29 → 1 ≤ inn k 6) := by
  have h := allK_at (p := fun k => decide (inn k 1 ≤ 2000 ∧ 1 ≤ inn k 1 ∧ inn k 2 ≤ 1000 ∧ inn k 3 ≤ 1000 ∧ inn k 4 ≤ 1000 ∧ inn k 6 ≤ 2000 ∧ (k < 29 → 1 ≤ inn k 6))) (by decide +kernel) k hk
  exact of_decide_eq_true h
/-- Row k of the code is size k of the reference. -/
theorem same (k : Nat) (hk : k < 30) : inn k 1 = szf k 4 ∧ inn k 2 = szf k 5 ∧ inn k 3 = szf k 3 ∧ inn k 4 = szf k 2 ∧ blk k = szf k 6 ∧ hreg (inn k 5) * inn k 3 + 2 * hreg (inn k 5) = szf k 1 ∧ vreg (inn k 5) * inn k 4 + 2 * vreg (inn k 5) = szf k 0 ∧
    hreg (inn k 5) * inn k 3 = szf k 1 / (szf k 3 + 2) * szf k 3 ∧ vreg (inn k 5) * inn k 4 = szf k 0 / (szf k 2 + 2) * szf k 2 ∧ (inn k 0 == 1) = !sqr k := by
  have h := allK_at (p := fun k => decide (inn k 1 = szf k 4 ∧ inn k 2 = szf k 5 ∧ inn k 3 = szf k 3 ∧ inn k 4 = szf k 2 ∧ blk k = szf k 6 ∧ hreg (inn k 5) * inn k 3 + 2 * hreg (inn k 5) = szf k 1 ∧ vreg (inn k 5) * inn k 4 + 2 * vreg (inn k 5) = szf k 0 ∧
    hreg (inn k 5) * inn k 3 = szf k 1 / (szf k 3 + 2) * szf k 3 ∧ vreg (inn k 5) * inn k 4 = szf k 0 / (szf k 2 + 2) * szf k 2 ∧ (inn k 0 == 1) = !sqr k)) (by decide +kernel) k hk
  exact of_decide_eq_true h
theorem sorted (j k : Nat) (hj : j ≤ k) (hk : k < 30) : szf j 4 ≤ szf k 4 := by
  have h := allK_at (p := fun k => allK fun j => decide (j ≤ k → szf j 4 ≤ szf k 4)) (by decide +kernel) k hk
  exact of_decide_eq_true (allK_at h j (by omega)) hj
theorem rowFits_iff (words shape k : Nat) (hs : shape ≤ 2) (hk : k < 30) : rowFits words shape k = (fitsB k shape && decide (words ≤ szf k 4)) := by
  obtain ⟨h1, _, _, _, _, _, _, _, _, h10⟩ := same k hk
  unfold rowFits fitsB
  rw [h1, h10]
  rcases (by omega : shape = 0 ∨ shape = 1 ∨ shape = 2) with rfl | rfl | rfl <;> cases sqr k <;> simp
theorem most_ge (shape : Nat) : ∀ n k, k < n → fitsB k shape = true → szf k 4 ≤ most shape n
  | 0, k, h, _ => by omega
  | n + 1, k, h, hf => by
    rcases Nat.lt_or_ge k n with hl | hl
    · have := most_ge shape n k hl hf
      unfold most; split <;> omega
    · obtain rfl : k = n := by omega
      unfold most; rw [if_pos hf]; omega
/-- None of the rows is taken if more words are asked for than any has. -/
theorem none_of_most (words shape : Nat) (hs : shape ≤ 2) (h : most shape 30 < words) (k : Nat) (hk : k < 30) : rowFits words shape k = false := by
  rw [rowFits_iff words shape k hs hk]
  by_cases hf : fitsB k shape = true
  · have := most_ge shape 30 k hk hf
    simp [hf]; omega
  · simp [hf]
theorem most_is (shape : Nat) (hs : shape ≤ 2) : ∃ k, k < 30 ∧ fitsB k shape = true ∧ szf k 4 = most shape 30 ∧ 5 ≤ most shape 30 := by
  rcases (by omega : shape = 0 ∨ shape = 1 ∨ shape = 2) with rfl | rfl | rfl
  · exact ⟨29, by decide, by decide, by decide +kernel, by decide +kernel⟩
  · exact ⟨29, by decide, by decide, by decide +kernel, by decide +kernel⟩
  · exact ⟨14, by decide, by decide, by decide +kernel, by decide +kernel⟩
/-- Some row is taken if no more words are asked for. -/
theorem some_of_most (words shape : Nat) (hs : shape ≤ 2) (h : words ≤ most shape 30) : ∃ k, k < 30 ∧ rowFits words shape k = true := by
  obtain ⟨k, hk, hf, he, _⟩ := most_is shape hs
  refine ⟨k, hk, ?_⟩
  rw [rowFits_iff words shape k hs hk, hf, he]
  simpa using h
end Go.Proofs.Ytfmjkflihnfneaa
