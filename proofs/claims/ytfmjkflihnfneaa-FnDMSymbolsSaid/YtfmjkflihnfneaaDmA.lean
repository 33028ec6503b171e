/- spec.DMSizes, DMSize.Square, DMFits, DMMost: the walks. -/
import Derived.Test.YtfmjkflihnfneaaProg
import Derived.Test.YtfmjkflihnfneaaMem
import Derived.Test.YtfmjkflihnfneaaDmT
import Derived.KernelRfl
import Derived.BigQuiet
import Derived.Deep.QuietTactic
namespace Go.Proofs.Ytfmjkflihnfneaa
open Go.RowKit
set_option linter.unusedVariables false
def szVals : List Value := szFlat.map fun (n : Nat) => Value.int .i64 n
theorem szVals_at {w : World} {g : Nat} (h : Arr w g 31 szVals) (k f : Nat) (hk : k < 30) (hf : f < 7) : w.cell? ⟨g, k * 7 + f, none⟩ = some (.int .i64 (szf k f : Nat)) := by
  rw [h.cell?, szVals, List.getElem?_map, sz_at k f hk hf]; rfl
theorem wp_of_run {P : Program} {o : Oper} {a : Act} {w : World} {K : Act → World → Prop} {Q : Exit → Act → World → Prop} (v : Value) (w' : World) (e : (execOp a.eval o).run P w = .ok (.value v) w') (h : K (a.put o.dst v) w') : Oper.wp P o a w K Q := by
  unfold Oper.wp; rw [e]; exact h
def SizesOut (w : World) (e : Ending) (w' : World) : Prop := e = .returned (.slice (some ⟨w.heap.size, 0, none⟩) 30 30) ∧ Arr w' w.heap.size 31 szVals ∧ Below w.heap.size w w'
set_option maxRecDepth 20000 in
set_option maxHeartbeats 4000000 in
theorem dmSizes (w : World) : Calls Try.prog 7 #[] w (SizesOut w) := by
  have hA := Arr.of_new w 31 szVals.toArray
  have hB := (Below.refl w.heap.size w).alloc (Nat.le_refl _) (.cells szVals.toArray 31)
  have HA := hid hA
  have HB := hid hB
  clear hA hB
  go_enter Try.func7, Try.ntmps7
  go_wp2_with fail
  refine wp_of_run (.slice (some ⟨w.heap.size, 0, none⟩) 30 30) (w.alloc (.cells szVals.toArray 31)) (by kernel_rfl) ?_
  go_wp2_with fail
  go_ret
  exact ⟨rfl, HA.out, HB.out⟩
/-- A size as a value. -/
def szAgg (k : Nat) : Value := .agg #[.int .i64 (szf k 0 : Nat), .int .i64 (szf k 1 : Nat), .int .i64 (szf k 2 : Nat), .int .i64 (szf k 3 : Nat), .int .i64 (szf k 4 : Nat), .int .i64 (szf k 5 : Nat), .int .i64 (szf k 6 : Nat)]
theorem square (a b c d e f g : Int) (w : World) : Calls Try.prog 20 #[.agg #[.int .i64 a, .int .i64 b, .int .i64 c, .int .i64 d, .int .i64 e, .int .i64 f, .int .i64 g]] w fun e' w' => e' = .returned (.bool (a == b)) ∧ Below w.heap.size w w' := by
  have hB := hid ((Below.refl w.heap.size w).alloc (Nat.le_refl _) (.cells #[.int .i64 a, .int .i64 b, .int .i64 c, .int .i64 d, .int .i64 e, .int .i64 f, .int .i64 g] 31))
  go_enter Try.func20, Try.ntmps20
  go_wp2_with fail
  go_ret
  exact ⟨rfl, hB.out⟩
end Go.Proofs.Ytfmjkflihnfneaa
