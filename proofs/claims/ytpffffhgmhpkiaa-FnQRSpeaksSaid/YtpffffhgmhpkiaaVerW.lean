/- A version's numbers: made, and read. -/
import Derived.Test.YtpffffhgmhpkiaaDnA
import Derived.Deep.DrawnRows
import Derived.BigQuiet
namespace Go.Proofs.Ytpffffhgmhpkiaa
open Go.RowKit
set_option linter.unusedVariables false
attribute [local go_sem ↓] Go.wp_at_zero Go.wp_at_succ

theorem below_drewN {B : Nat} {w w' : World} (h : Below B w w') (n : Nat) : Below B w (w'.drewN n) := ⟨h.os, h.tape, h.output, h.size, fun k hk => h.block k hk⟩
set_option maxRecDepth 20000 in
theorem ecWords (b o : Nat) (x : Int) (w : World) (h0 : w.cell? ⟨b, o, none⟩ = some (.int .i64 x)) : Calls Try.prog 133 #[.pointer (some ⟨b, o, none⟩)] w fun e w' => e = .returned (.int .i64 x) ∧ w = w' := by
  go_enter Try.func133, Try.ntmps133
  go_wp2_with fail
  go_ret
  exact ⟨rfl, rfl⟩

set_option maxRecDepth 20000 in
theorem ecBlocks (b o : Nat) (A : Option Addr) (k c : Nat) (w : World) (h0 : w.cell? ⟨b, o + 1, none⟩ = some (.slice A k c)) : Calls Try.prog 134 #[.pointer (some ⟨b, o, none⟩)] w fun e w' => e = .returned (.slice A k c) ∧ w = w' := by
  go_enter Try.func134, Try.ntmps134
  go_wp2_with fail
  go_ret
  exact ⟨rfl, rfl⟩

set_option maxRecDepth 20000 in
theorem getCount (x y : Int) (w : World) : Calls Try.prog 135 #[.agg #[.int .i64 x, .int .i64 y]] w fun e w' => e = .returned (.int .i64 x) ∧ w.alloc (.cells #[.int .i64 x, .int .i64 y] 194) = w' := by
  go_enter Try.func135, Try.ntmps135
  go_wp2_with fail
  go_ret
  exact ⟨rfl, rfl⟩

set_option maxRecDepth 20000 in
theorem getData (x y : Int) (w : World) : Calls Try.prog 136 #[.agg #[.int .i64 x, .int .i64 y]] w fun e w' => e = .returned (.int .i64 y) ∧ w.alloc (.cells #[.int .i64 x, .int .i64 y] 194) = w' := by
  go_enter Try.func136, Try.ntmps136
  go_wp2_with fail
  go_ret
  exact ⟨rfl, rfl⟩

end Go.Proofs.Ytpffffhgmhpkiaa
