/- A version's numbers: made, and read. -/
import Derived.Test.YtjgckbccbambmaaSqW
import Derived.Deep.DrawnRows
import Derived.BigQuiet
namespace Go.Proofs.Ytjgckbccbambmaa
open Go.RowKit
set_option linter.unusedVariables false
attribute [local go_sem ↓] Go.wp_at_zero Go.wp_at_succ

set_option maxRecDepth 20000 in
theorem ecWords (b o : Nat) (x : Int) (w : World) (h0 : w.cell? ⟨b, o, none⟩ = some (.int .i64 x)) : Calls Try.prog 31 #[.pointer (some ⟨b, o, none⟩)] w fun e w' => e = .returned (.int .i64 x) ∧ w = w' := by
  go_enter Try.func31, Try.ntmps31
  go_wp2_with fail
  go_ret
  exact ⟨rfl, rfl⟩

set_option maxRecDepth 20000 in
theorem ecBlocks (b o : Nat) (A : Option Addr) (k c : Nat) (w : World) (h0 : w.cell? ⟨b, o + 1, none⟩ = some (.slice A k c)) : Calls Try.prog 25 #[.pointer (some ⟨b, o, none⟩)] w fun e w' => e = .returned (.slice A k c) ∧ w = w' := by
  go_enter Try.func25, Try.ntmps25
  go_wp2_with fail
  go_ret
  exact ⟨rfl, rfl⟩

set_option maxRecDepth 20000 in
theorem getCount (x y : Int) (w : World) : Calls Try.prog 26 #[.agg #[.int .i64 x, .int .i64 y]] w fun e w' => e = .returned (.int .i64 x) ∧ w.alloc (.cells #[.int .i64 x, .int .i64 y] 60) = w' := by
  go_enter Try.func26, Try.ntmps26
  go_wp2_with fail
  go_ret
  exact ⟨rfl, rfl⟩

set_option maxRecDepth 20000 in
theorem getData (x y : Int) (w : World) : Calls Try.prog 27 #[.agg #[.int .i64 x, .int .i64 y]] w fun e w' => e = .returned (.int .i64 y) ∧ w.alloc (.cells #[.int .i64 x, .int .i64 y] 60) = w' := by
  go_enter Try.func27, Try.ntmps27
  go_wp2_with fail
  go_ret
  exact ⟨rfl, rfl⟩

set_option maxRecDepth 20000 in
theorem dimOf (q : Nat) (x : Nat) (hx : x ≤ 40) (w : World) (h0 : w.cell? ⟨q, 0, none⟩ = some (.int .i64 x)) : Calls Try.prog 28 #[.pointer (some ⟨q, 0, none⟩)] w fun e w' => (∃ z, e = .returned (.int .i64 z)) ∧ w = w' := by
  go_enter Try.func28, Try.ntmps28
  go_wp2_with fail
  go_ret
  exact ⟨⟨_, rfl⟩, rfl⟩

set_option maxRecDepth 20000 in
theorem totalOf (q : Nat) (x : Int) (w : World) (h0 : w.cell? ⟨q, 3, none⟩ = some (.int .i64 x)) : Calls Try.prog 29 #[.pointer (some ⟨q, 0, none⟩)] w fun e w' => e = .returned (.int .i64 x) ∧ w = w' := by
  go_enter Try.func29, Try.ntmps29
  go_wp2_with fail
  go_ret
  exact ⟨rfl, rfl⟩

set_option maxRecDepth 20000 in
theorem centersOf (q : Nat) (A : Option Addr) (k c : Nat) (w : World) (h0 : w.cell? ⟨q, 1, none⟩ = some (.slice A k c)) : Calls Try.prog 30 #[.pointer (some ⟨q, 0, none⟩)] w fun e w' => e = .returned (.slice A k c) ∧ w = w' := by
  go_enter Try.func30, Try.ntmps30
  go_wp2_with fail
  go_ret
  exact ⟨rfl, rfl⟩

/-- The place of a level's blocks in a version. -/
def lvAt (l : Nat) : Nat := if l = 0 then 1 else if l = 1 then 0 else if l = 2 then 3 else 2

set_option maxRecDepth 20000 in
theorem levelOf (q E : Nat) (l : Nat) (hl : l < 4) (w : World) (h0 : w.cell? ⟨q, 2, none⟩ = some (.slice (some ⟨E, 0, none⟩) 4 4)) : Calls Try.prog 24 #[.pointer (some ⟨q, 0, none⟩), .int .i64 l] w fun e w' => e = .returned (.pointer (some ⟨E, 2 * lvAt l, none⟩)) ∧ w = w' := by
  rcases (show l = 0 ∨ l = 1 ∨ l = 2 ∨ l = 3 by omega) with rfl | rfl | rfl | rfl
  all_goals (
  go_enter Try.func24, Try.ntmps24
  go_wp2_with fail
  go_ret
  exact ⟨rfl, rfl⟩)
end Go.Proofs.Ytjgckbccbambmaa
