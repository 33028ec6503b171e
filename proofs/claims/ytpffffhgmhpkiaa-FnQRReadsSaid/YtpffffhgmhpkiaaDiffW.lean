/- bits.OnesCount, FormatInformation_NumBitsDiffering, VERSION_DECODE_INFO, GetVersionNumber. -/
import Derived.Test.YtpffffhgmhpkiaaOnes
import Derived.Test.YtpffffhgmhpkiaaShapeW
namespace Go.Proofs.Ytpffffhgmhpkiaa
open Go.RowKit
set_option linter.unusedVariables false
set_option maxRecDepth 20000 in
theorem ones (x : Nat) (hx : x < 262144) (w : World) : Calls Try.prog 130 #[.int .u64 x] w fun e w' => e = .returned (.int .i64 (pops 18 x)) ∧ w = w' := by
  have o := ones64 x hx w
  generalize pops 18 x = r at *
  go_enter Try.func130, Try.ntmps130
  go_wp2_with fail
  refine o.mono ?_
  rintro e w1 ⟨rfl, rfl⟩
  go_wp2_with fail
  go_ret
  exact ⟨rfl, rfl⟩
set_option maxRecDepth 20000 in
theorem differ (a b : Nat) (ha : a < 262144) (hb : b < 262144) (w : World) : Calls Try.prog 114 #[.int .u64 a, .int .u64 b] w fun e w' => e = .returned (.int .i64 (far a b)) ∧ w = w' := by
  have o := ones (a ^^^ b) (xor_lt18 ha hb) w
  have hx := u64_xor a b (by omega) (by omega)
  unfold far
  generalize a ^^^ b = y at *
  generalize pops 18 y = r at *
  go_enter Try.func114, Try.ntmps114
  go_wp2_with fail
  refine o.mono ?_
  rintro e w1 ⟨rfl, rfl⟩
  go_wp2_with fail
  go_ret
  exact ⟨rfl, rfl⟩
set_option maxRecDepth 20000 in
theorem verNum (q : Nat) (x : Int) (w : World) (h0 : w.cell? ⟨q, 0, none⟩ = some (.int .i64 x)) : Calls Try.prog 41 #[.pointer (some ⟨q, 0, none⟩)] w fun e w' => e = .returned (.int .i64 x) ∧ w = w' := by
  go_enter Try.func41, Try.ntmps41
  go_wp2_with fail
  go_ret
  exact ⟨rfl, rfl⟩
/-- The table in new memory. -/
def TabOut (w : World) (e : Ending) (w' : World) : Prop := e = .returned (.slice (some ⟨w.heap.size, 0, none⟩) 34 34) ∧ Arr w' w.heap.size 3 (vtab.map fun (x : Nat) => Value.int .i64 x) ∧ Below w.heap.size w w'
set_option maxRecDepth 20000 in
theorem table (w : World) : Calls Try.prog 113 #[] w (TabOut w) := by
  have hA := Arr.of_new w 3 (vtab.map fun (x : Nat) => Value.int .i64 x).toArray
  have hB := (Below.refl w.heap.size w).alloc (Nat.le_refl _) (.cells (vtab.map fun (x : Nat) => Value.int .i64 x).toArray 3)
  have HA := hid hA
  have HB := hid hB
  clear hA hB
  go_enter Try.func113, Try.ntmps113
  go_wp2_with fail
  go_ret
  exact ⟨rfl, HA.out, HB.out⟩
end Go.Proofs.Ytpffffhgmhpkiaa
