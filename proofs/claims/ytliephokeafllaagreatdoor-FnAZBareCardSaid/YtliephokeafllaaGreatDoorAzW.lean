/- The fields of the package and the getters of what was detected. -/
import Derived.Test.YtliephokeafllaaGreatDoorRsG
import Derived.Test.YtliephokeafllaaGreatDoorAzN
import Derived.Test.YtliephokeafllaaGreatDoorAzQ
import Derived.Test.YtliephokeafllaaGreatDoorAzV
import Derived.Test.YtliephokeafllaaGreatDoorAzK
namespace Go.Proofs.YtliephokeafllaaGreatDoor
open Go.RowKit
set_option linter.unusedVariables false

theorem pkg6 (w : World) : Calls Tryz.prog 58 #[] w (Rs.FieldOut 67 6 1 w) := by
  have nf : Calls Tryz.prog 84 #[.int .i64 67, .int .i64 64, .int .i64 1] w (Rs.FieldOut 67 6 1 w) := Rs.newField 67 6 64 1 w Rs.gf64 (hid rfl) (by omega)
  go_enter Tryz.func58, Tryz.ntmps58
  go_wp2_with fail
  refine nf.mono ?_
  rintro e w1 ⟨g, rfl, h1, h2, h3⟩
  go_wp2_with fail
  go_ret
  exact ⟨g, rfl, h1, h2, h3⟩
theorem pkg8a (w : World) : Calls Tryz.prog 85 #[] w (Rs.FieldOut 301 8 1 w) := by
  have nf : Calls Tryz.prog 84 #[.int .i64 301, .int .i64 256, .int .i64 1] w (Rs.FieldOut 301 8 1 w) := Rs.newField 301 8 256 1 w Rs.gf256a (hid rfl) (by omega)
  go_enter Tryz.func85, Tryz.ntmps85
  go_wp2_with fail
  refine nf.mono ?_
  rintro e w1 ⟨g, rfl, h1, h2, h3⟩
  go_wp2_with fail
  go_ret
  exact ⟨g, rfl, h1, h2, h3⟩
theorem pkg8 (w : World) : Calls Tryz.prog 59 #[] w (Rs.FieldOut 301 8 1 w) := by
  have nf := pkg8a w
  go_enter Tryz.func59, Tryz.ntmps59
  go_wp2_with fail
  refine nf.mono ?_
  rintro e w1 ⟨g, rfl, h1, h2, h3⟩
  go_wp2_with fail
  go_ret
  exact ⟨g, rfl, h1, h2, h3⟩
theorem pkg10 (w : World) : Calls Tryz.prog 60 #[] w (Rs.FieldOut 1033 10 1 w) := by
  have nf : Calls Tryz.prog 84 #[.int .i64 1033, .int .i64 1024, .int .i64 1] w (Rs.FieldOut 1033 10 1 w) := Rs.newField 1033 10 1024 1 w Rs.gf1024 (hid rfl) (by omega)
  go_enter Tryz.func60, Tryz.ntmps60
  go_wp2_with fail
  refine nf.mono ?_
  rintro e w1 ⟨g, rfl, h1, h2, h3⟩
  go_wp2_with fail
  go_ret
  exact ⟨g, rfl, h1, h2, h3⟩
theorem pkg12 (w : World) : Calls Tryz.prog 61 #[] w (Rs.FieldOut 4201 12 1 w) := by
  have nf : Calls Tryz.prog 84 #[.int .i64 4201, .int .i64 4096, .int .i64 1] w (Rs.FieldOut 4201 12 1 w) := Rs.newField 4201 12 4096 1 w Rs.gf4096 (hid rfl) (by omega)
  go_enter Tryz.func61, Tryz.ntmps61
  go_wp2_with fail
  refine nf.mono ?_
  rintro e w1 ⟨g, rfl, h1, h2, h3⟩
  go_wp2_with fail
  go_ret
  exact ⟨g, rfl, h1, h2, h3⟩
theorem blocksM (dd nb L : Nat) (c : Bool) (pv : Value) (w : World) (hdd : Arr w dd 82 [pv, .bool c, .int .i64 (nb : Nat), .int .i64 (L : Nat)]) :
    Calls Tryz.prog 62 #[.pointer (some ⟨dd, 0, none⟩)] w fun e w' => e = .returned (.int .i64 (nb : Nat)) ∧ w = w' := by
  have c2 := hdd.cell? 2
  simp only [List.getElem?_cons_succ, List.getElem?_cons_zero] at c2
  clear hdd
  go_enter Tryz.func62, Tryz.ntmps62
  go_wp2
  go_ret
  exact ⟨rfl, rfl⟩
end Go.Proofs.YtliephokeafllaaGreatDoor
