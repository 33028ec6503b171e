/- Rows of bits by two numbers: laws.biRows, spec.BIRows. -/
import Derived.Test.YtmaghlckgfihcaaDoorMatW
namespace Go.Proofs.YtmaghlckgfihcaaDoor
open Go.RowKit
set_option linter.unusedVariables false

theorem fillSet {α : Type} (d : α) (X : List α) (n k : Nat) (hk : k < X.length) (hkn : k < n) : (X.take k ++ List.replicate (n - k) d).set k (X.getD k d) = X.take (k + 1) ++ List.replicate (n - (k + 1)) d := by
  have hl : (X.take k).length = k := by rw [List.length_take]; omega
  rw [List.set_append_right _ _ (by omega), hl, Nat.sub_self, show n - k = (n - (k + 1)) + 1 from by omega, List.replicate_succ, List.set_cons_zero, List.take_succ_eq_append_getElem hk, List.append_assoc]
  simp [List.getD, List.getElem?_eq_getElem hk]
theorem infoRow : (Tryd.prog.info? 22).map (fun i => (i.zero, i.size, i.bytes)) = some (some (.slice none 0 0), 1, 24) := by kernel_rfl
theorem infoBool : (Tryd.prog.info? 4).map (fun i => (i.zero, i.size, i.bytes)) = some (some (.bool false), 1, 1) := by kernel_rfl
/-- Rows in new memory are handed back. -/
def RowsBack (n : Nat) (X : Nat → List Value) (w : World) (e : Ending) (w' : World) : Prop :=
  ∃ G, e = .returned (.slice (some ⟨G, 0, none⟩) n n) ∧ w.heap.size ≤ G ∧ RdRows w' (some ⟨G, 0, none⟩) n X ∧ Below w.heap.size w w'
/-- Bits that go on and on, in rows. -/
def wrapR (zs : List Bool) (L W : Nat) : Nat → Nat → Bool := fun y x => if L = 0 then false else zs.getD ((y * W + x) % L) false

end Go.Proofs.YtmaghlckgfihcaaDoor
