/- Sums, least and greatest of pixels of two grays, the darker one black. Plain. -/
import Derived.Test.YtkonepeejhgloaaGrid
namespace Go.Proofs.Ytkonepeejhgloaa
set_option linter.unusedVariables false

/-- m pixels, each 0 or lt: their sum, the least and the greatest of them (255 and 0 where there is none). -/
def Scan (lt m s mn mx : Nat) : Prop := ∃ d l, d + l = m ∧ s = l * lt ∧ mn = (if 0 < d then 0 else if 0 < l then lt else 255) ∧ mx = (if 0 < l then lt else 0)
theorem Scan.zero (lt : Nat) : Scan lt 0 0 255 0 := ⟨0, 0, rfl, by simp, by simp, by simp⟩
theorem Scan.dark {lt m s mn mx : Nat} (h : Scan lt m s mn mx) : Scan lt (m + 1) s 0 mx := by
  obtain ⟨d, l, h1, h2, h3, h4⟩ := h
  exact ⟨d + 1, l, by omega, h2, by rw [if_pos (by omega)], h4⟩
theorem Scan.light {lt m s mn mx : Nat} (h : Scan lt m s mn mx) (hl : lt ≤ 255) : Scan lt (m + 1) (s + lt) (min lt mn) lt := by
  obtain ⟨d, l, h1, h2, h3, h4⟩ := h
  refine ⟨d, l + 1, by omega, by rw [h2, Nat.add_mul, Nat.one_mul], ?_, by rw [if_pos (by omega)]⟩
  rw [h3]
  by_cases hd : 0 < d
  · rw [if_pos hd, if_pos hd]; omega
  · rw [if_neg hd, if_neg hd]
    have e1 : (if 0 < l + 1 then lt else 255) = lt := if_pos (by omega)
    rw [e1]
    by_cases h0 : 0 < l
    · rw [if_pos h0]; omega
    · rw [if_neg h0]; omega
theorem Scan.bd {lt m s mn mx : Nat} (h : Scan lt m s mn mx) (hl : lt ≤ 255) (hm : m ≤ 64) : s ≤ 16320 ∧ mn ≤ 255 ∧ mx ≤ 255 := by
  obtain ⟨d, l, h1, h2, h3, h4⟩ := h
  have := Nat.mul_le_mul (show l ≤ 64 by omega) hl
  refine ⟨by omega, ?_, ?_⟩
  · rw [h3]; split
    · omega
    · split <;> omega
  · rw [h4]; split <;> omega
theorem Scan.step {lt m s mn mx p : Nat} (h : Scan lt m s mn mx) (hl : lt ≤ 255) (hp : p = 0 ∨ p = lt) : Scan lt (m + 1) (s + p) (if p < mn then p else mn) (if mx < p then p else mx) := by
  rcases hp with rfl | rfl
  · have := h.dark
    rw [Nat.add_zero, if_neg (Nat.not_lt_zero _)]
    have e : (if 0 < mn then 0 else mn) = 0 := by split <;> omega
    rw [e]; exact this
  · have h2 := h.light hl
    obtain ⟨d, l, h1, _, _, h4⟩ := h
    have e1 : (if p < mn then p else mn) = min p mn := by split <;> omega
    have e2 : (if mx < p then p else mx) = p := by
      by_cases h0 : 0 < l
      · rw [if_pos h0] at h4; split <;> omega
      · rw [if_neg h0] at h4; split <;> omega
    rw [e1, e2]; exact h2
theorem Fast.step {lt m s p : Nat} (hp : p = 0 ∨ p = lt) : (∃ d l, d + l = m ∧ s = l * lt ∧ 0 < d ∧ 0 < l) → ∃ d l, d + l = m + 1 ∧ s + p = l * lt ∧ 0 < d ∧ 0 < l := by
  rintro ⟨d, l, h1, h2, h3, h4⟩
  rcases hp with rfl | rfl
  · exact ⟨d + 1, l, by omega, h2, by omega, h4⟩
  · exact ⟨d, l + 1, by omega, by rw [h2, Nat.add_mul, Nat.one_mul], h3, by omega⟩
/-- Both grays have been met. -/
def Fast (lt m s : Nat) : Prop := ∃ d l, d + l = m ∧ s = l * lt ∧ 0 < d ∧ 0 < l
theorem Scan.fast {lt m s mn mx : Nat} (h : Scan lt m s mn mx) (hl : lt ≤ 255) (hg : mn + 24 < mx) : Fast lt m s ∧ mn = 0 ∧ mx = lt := by
  obtain ⟨d, l, h1, h2, h3, h4⟩ := h
  have h0 : 0 < l := by
    rcases Nat.eq_zero_or_pos l with e | e
    · rw [if_neg (by omega)] at h4; omega
    · exact e
  rw [if_pos h0] at h4
  have hd : 0 < d := by
    rcases Nat.eq_zero_or_pos d with e | e
    · rw [if_neg (by omega), if_pos h0] at h3; omega
    · exact e
  exact ⟨⟨d, l, h1, h2, hd, h0⟩, by rw [h3, if_pos hd], h4⟩
theorem Fast.dark {lt m s : Nat} (h : Fast lt m s) : Fast lt (m + 1) s := by
  obtain ⟨d, l, h1, h2, h3, h4⟩ := h
  exact ⟨d + 1, l, by omega, h2, by omega, h4⟩
theorem Fast.light {lt m s : Nat} (h : Fast lt m s) : Fast lt (m + 1) (s + lt) := by
  obtain ⟨d, l, h1, h2, h3, h4⟩ := h
  exact ⟨d, l + 1, by omega, by rw [h2, Nat.add_mul, Nat.one_mul], h3, by omega⟩
theorem Fast.bd {lt m s : Nat} (h : Fast lt m s) (hl : lt ≤ 255) (hm : m ≤ 64) : s ≤ 16320 := by
  obtain ⟨d, l, h1, h2, h3, h4⟩ := h
  have := Nat.mul_le_mul (show l ≤ 64 by omega) hl
  omega
/-- The average of both lies below the lighter one. -/
theorem Fast.avg {lt s : Nat} (h : Fast lt 64 s) (h0 : 25 ≤ lt) : s / 64 < lt := by
  obtain ⟨d, l, h1, h2, h3, h4⟩ := h
  have : l * lt ≤ 63 * lt := Nat.mul_le_mul_right lt (by omega)
  omega
/-- All alike: half of it lies below the lighter one. -/
theorem Scan.half {lt s mn mx : Nat} (h : Scan lt 64 s mn mx) (h0 : 25 ≤ lt) (hg : ¬ mn + 24 < mx) : mn / 2 < lt ∧ mn ≤ lt := by
  obtain ⟨d, l, h1, h2, h3, h4⟩ := h
  by_cases hd : 0 < d
  · rw [if_pos hd] at h3; omega
  · rw [if_neg hd, if_pos (by omega)] at h3; omega
theorem RowsUp.bp {w : World} {G : Nat} {tS e : TypeId} {n k : Nat} {gs : Nat → Nat} {X : Nat → List Value} (h : RowsUp w G tS e n k gs X) {r : Nat} (hr : r < k) : w.cell? ⟨G, r, none⟩ = some (.slice (some ⟨gs r, 0, none⟩) (X r).length (X r).length) := by
  rw [h.top.cell? r, List.getElem?_append_left (by simpa using hr)]
  simp [List.getElem?_range hr]
/-- A row of bounds. -/
def bpRow (F : Nat → Nat → Nat) (n r : Nat) : List Value := (List.range n).map fun c => Value.int .i64 (F r c : Nat)
theorem bpRow_len (F : Nat → Nat → Nat) (n r : Nat) : (bpRow F n r).length = n := by simp [bpRow]
theorem bpRow_at (F : Nat → Nat → Nat) (n r c : Nat) (hc : c < n) : (bpRow F n r)[c]? = some (.int .i64 (F r c : Nat)) := by simp [bpRow, List.getElem?_range hc]
def putF (F : Nat → Nat → Nat) (y x v : Nat) : Nat → Nat → Nat := fun r c => if r = y ∧ c = x then v else F r c
def rowZ (F : Nat → Nat → Nat) (y : Nat) : Nat → Nat → Nat := fun r c => if r = y then 0 else F r c
theorem bpRow_put (F : Nat → Nat → Nat) (n y x v : Nat) (hx : x < n) : (fun r => bpRow (putF F y x v) n r) = put (bpRow F n) y ((bpRow F n y).set x (.int .i64 (v : Nat))) := by
  funext r
  unfold put
  by_cases e : r = y
  · rw [if_pos e]
    apply List.ext_getElem
    · simp [bpRow]
    · intro i h1 h2
      rw [List.getElem_set]
      by_cases hi : x = i
      · rw [if_pos hi]; subst hi; simp [bpRow, putF, e]
      · rw [if_neg hi]; simp [bpRow, putF, Ne.symm hi, e]
  · rw [if_neg e]
    unfold bpRow putF
    simp [e]
theorem bpRow_new (F : Nat → Nat → Nat) (n y r : Nat) : bpRow (rowZ F y) n r = put (bpRow F n) y (List.replicate n (.int .i64 0)) r := by
  unfold put
  by_cases e : r = y
  · rw [if_pos e]
    apply List.ext_getElem
    · simp [bpRow]
    · intro i h1 h2; simp [bpRow, rowZ, e]
  · rw [if_neg e]
    unfold bpRow rowZ
    simp [e]
/-- Where a block begins. -/
def blk (k n : Nat) : Nat := min (8 * k) (n - 8)
theorem blk_le {k n : Nat} (hn : 8 ≤ n) : blk k n + 8 ≤ n := by unfold blk; omega
/-- Each place lies in a block. -/
theorem blk_all {n x : Nat} (hn : 8 ≤ n) (hx : x < n) : ∃ k, k < (n + 7) / 8 ∧ blk k n ≤ x ∧ x < blk k n + 8 := by
  refine ⟨x / 8, by omega, ?_, ?_⟩ <;> unfold blk <;> omega
end Go.Proofs.Ytkonepeejhgloaa
