/- spec.DMSizes, DMSize.Square, DMFits, DMMost: the walks. -/
import Derived.Test.YtfmjkflihnfneaaDoorProg
import Derived.Test.YtfmjkflihnfneaaDoorMem
import Derived.Test.YtfmjkflihnfneaaDoorDmT
import Derived.KernelRfl
import Derived.BigQuiet
import Derived.Deep.QuietTactic
namespace Go.Proofs.YtfmjkflihnfneaaDoor
open Go.RowKit
set_option linter.unusedVariables false
def szVals : List Value := szFlat.map fun (n : Nat) => Value.int .i64 n
theorem szVals_at {w : World} {g : Nat} (h : Arr w g 32 szVals) (k f : Nat) (hk : k < 30) (hf : f < 7) : w.cell? ⟨g, k * 7 + f, none⟩ = some (.int .i64 (szf k f : Nat)) := by
  rw [h.cell?, szVals, List.getElem?_map, sz_at k f hk hf]; rfl
theorem wp_of_run {P : Program} {o : Oper} {a : Act} {w : World} {K : Act → World → Prop} {Q : Exit → Act → World → Prop} (v : Value) (w' : World) (e : (execOp a.eval o).run P w = .ok (.value v) w') (h : K (a.put o.dst v) w') : Oper.wp P o a w K Q := by
  unfold Oper.wp; rw [e]; exact h
def SizesOut (w : World) (e : Ending) (w' : World) : Prop := e = .returned (.slice (some ⟨w.heap.size, 0, none⟩) 30 30) ∧ Arr w' w.heap.size 32 szVals ∧ Below w.heap.size w w'
set_option maxRecDepth 20000 in
set_option maxHeartbeats 4000000 in
theorem dmSizes (w : World) : Calls Tryd.prog 16 #[] w (SizesOut w) := by
  have hA := Arr.of_new w 32 szVals.toArray
  have hB := (Below.refl w.heap.size w).alloc (Nat.le_refl _) (.cells szVals.toArray 32)
  have HA := hid hA
  have HB := hid hB
  clear hA hB
  go_enter Tryd.func16, Tryd.ntmps16
  go_wp2_with fail
  refine wp_of_run (.slice (some ⟨w.heap.size, 0, none⟩) 30 30) (w.alloc (.cells szVals.toArray 32)) (by kernel_rfl) ?_
  go_wp2_with fail
  go_ret
  exact ⟨rfl, HA.out, HB.out⟩
/-- A size as a value. -/
def szAgg (k : Nat) : Value := .agg #[.int .i64 (szf k 0 : Nat), .int .i64 (szf k 1 : Nat), .int .i64 (szf k 2 : Nat), .int .i64 (szf k 3 : Nat), .int .i64 (szf k 4 : Nat), .int .i64 (szf k 5 : Nat), .int .i64 (szf k 6 : Nat)]
end Go.Proofs.YtfmjkflihnfneaaDoor
