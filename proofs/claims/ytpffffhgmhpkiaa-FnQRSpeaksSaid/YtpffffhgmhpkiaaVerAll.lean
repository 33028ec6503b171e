/- decoder.versionOf, all versions. Printed by gen_ver.py. -/
import Derived.Test.YtpffffhgmhpkiaaVer1
import Derived.Test.YtpffffhgmhpkiaaVer6
import Derived.Test.YtpffffhgmhpkiaaVer11
import Derived.Test.YtpffffhgmhpkiaaVer16
import Derived.Test.YtpffffhgmhpkiaaVer21
import Derived.Test.YtpffffhgmhpkiaaVer26
import Derived.Test.YtpffffhgmhpkiaaVer31
import Derived.Test.YtpffffhgmhpkiaaVer36
namespace Go.Proofs.Ytpffffhgmhpkiaa
open Go.RowKit
set_option linter.unusedVariables false

/-- The versions. -/
def vrow (v : Nat) : VRow := [row1, row2, row3, row4, row5, row6, row7, row8, row9, row10, row11, row12, row13, row14, row15, row16, row17, row18, row19, row20, row21, row22, row23, row24, row25, row26, row27, row28, row29, row30, row31, row32, row33, row34, row35, row36, row37, row38, row39, row40].getD (v - 1) ([], [])
theorem versionOf (v : Nat) (h1 : 1 ≤ v) (h2 : v ≤ 40) (w : World) : Calls Try.prog 80 #[.int .i64 v] w (VerOut v (vrow v) w) := by
  rcases (show v = 1 ∨ v = 2 ∨ v = 3 ∨ v = 4 ∨ v = 5 ∨ v = 6 ∨ v = 7 ∨ v = 8 ∨ v = 9 ∨ v = 10 ∨ v = 11 ∨ v = 12 ∨ v = 13 ∨ v = 14 ∨ v = 15 ∨ v = 16 ∨ v = 17 ∨ v = 18 ∨ v = 19 ∨ v = 20 ∨ v = 21 ∨ v = 22 ∨ v = 23 ∨ v = 24 ∨ v = 25 ∨ v = 26 ∨ v = 27 ∨ v = 28 ∨ v = 29 ∨ v = 30 ∨ v = 31 ∨ v = 32 ∨ v = 33 ∨ v = 34 ∨ v = 35 ∨ v = 36 ∨ v = 37 ∨ v = 38 ∨ v = 39 ∨ v = 40 by omega) with rfl | rfl | rfl | rfl | rfl | rfl | rfl | rfl | rfl | rfl | rfl | rfl | rfl | rfl | rfl | rfl | rfl | rfl | rfl | rfl | rfl | rfl | rfl | rfl | rfl | rfl | rfl | rfl | rfl | rfl | rfl | rfl | rfl | rfl | rfl | rfl | rfl | rfl | rfl | rfl
  · exact ver1 w
  · exact ver2 w
  · exact ver3 w
  · exact ver4 w
  · exact ver5 w
  · exact ver6 w
  · exact ver7 w
  · exact ver8 w
  · exact ver9 w
  · exact ver10 w
  · exact ver11 w
  · exact ver12 w
  · exact ver13 w
  · exact ver14 w
  · exact ver15 w
  · exact ver16 w
  · exact ver17 w
  · exact ver18 w
  · exact ver19 w
  · exact ver20 w
  · exact ver21 w
  · exact ver22 w
  · exact ver23 w
  · exact ver24 w
  · exact ver25 w
  · exact ver26 w
  · exact ver27 w
  · exact ver28 w
  · exact ver29 w
  · exact ver30 w
  · exact ver31 w
  · exact ver32 w
  · exact ver33 w
  · exact ver34 w
  · exact ver35 w
  · exact ver36 w
  · exact ver37 w
  · exact ver38 w
  · exact ver39 w
  · exact ver40 w

end Go.Proofs.Ytpffffhgmhpkiaa
