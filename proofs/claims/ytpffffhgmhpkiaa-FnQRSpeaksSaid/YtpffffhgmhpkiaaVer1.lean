/- decoder.versionOf, versions 1 to 5. Printed by gen_ver.py. -/
import Derived.Test.YtpffffhgmhpkiaaVerO
namespace Go.Proofs.Ytpffffhgmhpkiaa
open Go.RowKit
set_option linter.unusedVariables false

def row1 : VRow := ([], [(7, [(1, 19)]), (10, [(1, 16)]), (13, [(1, 13)]), (17, [(1, 9)])])
set_option maxRecDepth 100000 in
set_option maxHeartbeats 8000000 in
theorem ver1 (w : World) : Calls Try.prog 80 #[.int .i64 1] w (VerOut 1 row1 w) := by
  have nv := newVer6 w 1 [] 7 10 13 17 [(1, 19)] [(1, 16)] [(1, 13)] [(1, 9)] (by decide)
  have NV := hid nv
  clear nv
  go_enter Try.func80, Try.ntmps80
  go_wp2_with fail
  refine Calls.mono NV.out ?_
  rintro e w1 ⟨q, rfl, hv, hb⟩
  have HV := hid hv
  have HB := hid hb
  clear hv hb NV
  go_wp2_with fail
  go_ret
  exact ⟨q, rfl, HV.out, HB.out⟩

def row2 : VRow := ([6, 18], [(10, [(1, 34)]), (16, [(1, 28)]), (22, [(1, 22)]), (28, [(1, 16)])])
set_option maxRecDepth 100000 in
set_option maxHeartbeats 8000000 in
theorem ver2 (w : World) : Calls Try.prog 80 #[.int .i64 2] w (VerOut 2 row2 w) := by
  have nv := newVer6 w 2 [6, 18] 10 16 22 28 [(1, 34)] [(1, 28)] [(1, 22)] [(1, 16)] (by decide)
  have NV := hid nv
  clear nv
  go_enter Try.func80, Try.ntmps80
  go_wp2_with fail
  refine Calls.mono NV.out ?_
  rintro e w1 ⟨q, rfl, hv, hb⟩
  have HV := hid hv
  have HB := hid hb
  clear hv hb NV
  go_wp2_with fail
  go_ret
  exact ⟨q, rfl, HV.out, HB.out⟩

def row3 : VRow := ([6, 22], [(15, [(1, 55)]), (26, [(1, 44)]), (18, [(2, 17)]), (22, [(2, 13)])])
set_option maxRecDepth 100000 in
set_option maxHeartbeats 8000000 in
theorem ver3 (w : World) : Calls Try.prog 80 #[.int .i64 3] w (VerOut 3 row3 w) := by
  have nv := newVer6 w 3 [6, 22] 15 26 18 22 [(1, 55)] [(1, 44)] [(2, 17)] [(2, 13)] (by decide)
  have NV := hid nv
  clear nv
  go_enter Try.func80, Try.ntmps80
  go_wp2_with fail
  refine Calls.mono NV.out ?_
  rintro e w1 ⟨q, rfl, hv, hb⟩
  have HV := hid hv
  have HB := hid hb
  clear hv hb NV
  go_wp2_with fail
  go_ret
  exact ⟨q, rfl, HV.out, HB.out⟩

def row4 : VRow := ([6, 26], [(20, [(1, 80)]), (18, [(2, 32)]), (26, [(2, 24)]), (16, [(4, 9)])])
set_option maxRecDepth 100000 in
set_option maxHeartbeats 8000000 in
theorem ver4 (w : World) : Calls Try.prog 80 #[.int .i64 4] w (VerOut 4 row4 w) := by
  have nv := newVer6 w 4 [6, 26] 20 18 26 16 [(1, 80)] [(2, 32)] [(2, 24)] [(4, 9)] (by decide)
  have NV := hid nv
  clear nv
  go_enter Try.func80, Try.ntmps80
  go_wp2_with fail
  refine Calls.mono NV.out ?_
  rintro e w1 ⟨q, rfl, hv, hb⟩
  have HV := hid hv
  have HB := hid hb
  clear hv hb NV
  go_wp2_with fail
  go_ret
  exact ⟨q, rfl, HV.out, HB.out⟩

def row5 : VRow := ([6, 30], [(26, [(1, 108)]), (24, [(2, 43)]), (18, [(2, 15), (2, 16)]), (22, [(2, 11), (2, 12)])])
set_option maxRecDepth 100000 in
set_option maxHeartbeats 8000000 in
theorem ver5 (w : World) : Calls Try.prog 80 #[.int .i64 5] w (VerOut 5 row5 w) := by
  have nv := newVer6 w 5 [6, 30] 26 24 18 22 [(1, 108)] [(2, 43)] [(2, 15), (2, 16)] [(2, 11), (2, 12)] (by decide)
  have NV := hid nv
  clear nv
  go_enter Try.func80, Try.ntmps80
  go_wp2_with fail
  refine Calls.mono NV.out ?_
  rintro e w1 ⟨q, rfl, hv, hb⟩
  have HV := hid hv
  have HB := hid hb
  clear hv hb NV
  go_wp2_with fail
  go_ret
  exact ⟨q, rfl, HV.out, HB.out⟩

end Go.Proofs.Ytpffffhgmhpkiaa
