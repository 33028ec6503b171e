/- QR codes: the bytes of the alphanumeric mode: gozxing's table. -/
import Derived.Test.YtpffffhgmhpkiaaSpB
namespace Go.Proofs.Ytpffffhgmhpkiaa
open Go.RowKit
set_option linter.unusedVariables false
set_option linter.unusedSimpArgs false
theorem alph_at : ∀ x (h : x < 45), (({ data := #[48, 49, 50, 51, 52, 53, 54, 55, 56, 57, 65, 66, 67, 68, 69, 70, 71, 72, 73, 74, 75, 76, 77, 78, 79, 80, 81, 82, 83, 84, 85, 86, 87, 88, 89, 90, 32, 36, 37, 42, 43, 45, 46, 47, 58] } : ByteArray)[x]'h).toNat = alphL.getD x 0 := by decide +kernel
theorem alph_back : ∀ c, c < 256 → alph c < 45 → alphL.getD (alph c) 0 = c := by decide +kernel
set_option maxRecDepth 20000 in
theorem alphaChar (x : Nat) (hx : x < 45) (w : World) : Calls Try.prog 121 #[.int .i64 x] w fun e w' => e = .returned (.tuple #[.int .u8 (alphL.getD x 0 : Nat), .nilIface]) ∧ w = w' := by
  have h1 : ¬ (45 : Int) ≤ (x : Int) := by omega
  go_enter Try.func121, Try.ntmps121
  go_wp2_with fail
  go_ret2
  exact ⟨congrArg (fun n : Nat => Ending.returned (.tuple #[.int .u8 (n : Int), .nilIface])) (alph_at x hx), rfl⟩
end Go.Proofs.Ytpffffhgmhpkiaa
