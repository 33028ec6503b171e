/- A matrix of bits from rows, and rows from a matrix: rows of bits. -/
import Derived.Test.YtkonepeejhgloaaMatW
namespace Go.Proofs.Ytkonepeejhgloaa
open Go.RowKit
set_option linter.unusedVariables false

/-- Row r of rows W wide. -/
def brow (R : Nat → Nat → Bool) (W r : Nat) : List Value := (List.range W).map fun c => Value.bool (R r c)
theorem brow_len (R : Nat → Nat → Bool) (W r : Nat) : (brow R W r).length = W := by simp [brow]
theorem rd_brow {w : World} {Ra : Option Addr} {R : Nat → Nat → Bool} {W r : Nat} (h : Rd w Ra W (brow R W r)) (c : Nat) (hc : c < W) : ∃ b o, Ra = some ⟨b, o, none⟩ ∧ b < w.heap.size ∧ w.cell? ⟨b, o + c, none⟩ = some (.bool (R r c)) := by
  obtain ⟨b, o, h1, h2, h3⟩ := h.2 (by omega)
  refine ⟨b, o, h1, h2, ?_⟩
  rw [h3 c (by rw [brow_len]; exact hc)]
  simp [brow]
/-- The bits of rows, as far as row i, column j. -/
def upToB (R : Nat → Nat → Bool) (W i j : Nat) : Nat → Nat → Bool := fun x y => decide (x < W) && (decide (y < i) || (decide (y = i) && decide (x < j))) && R y x
def allB (R : Nat → Nat → Bool) (W : Nat) : Nat → Nat → Bool := fun x y => decide (x < W) && R y x

end Go.Proofs.Ytkonepeejhgloaa
