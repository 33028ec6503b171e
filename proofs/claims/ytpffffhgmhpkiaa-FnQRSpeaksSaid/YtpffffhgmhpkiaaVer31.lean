/- decoder.versionOf, versions 31 to 35. Printed by gen_ver.py. -/
import Derived.Test.YtpffffhgmhpkiaaVerO
namespace Go.Proofs.Ytpffffhgmhpkiaa
open Go.RowKit
set_option linter.unusedVariables false

def row31 : VRow := ([6, 30, 56, 82, 108, 134], [(30, [(13, 115), (3, 116)]), (28, [(2, 46), (29, 47)]), (30, [(42, 24), (1, 25)]), (30, [(23, 15), (28, 16)])])
set_option maxRecDepth 100000 in
set_option maxHeartbeats 8000000 in
theorem ver31 (w : World) : Calls Try.prog 80 #[.int .i64 31] w (VerOut 31 row31 w) := by
  have nv := newVer6 w 31 [6, 30, 56, 82, 108, 134] 30 28 30 30 [(13, 115), (3, 116)] [(2, 46), (29, 47)] [(42, 24), (1, 25)] [(23, 15), (28, 16)] (by decide)
  have NV := hid nv
  clear nv
  go_enter Try.func80, Try.ntmps80
  go_wp2_with fail
  refine Calls.mono NV.out ?_
  rintro e w1 ⟨q, rfl, hv, hb⟩
  have HV := hid hv
  have HB := hid hb
  clear hv hb NV
  go_wp2_with fail
  go_ret
  exact ⟨q, rfl, HV.out, HB.out⟩

def row32 : VRow := ([6, 34, 60, 86, 112, 138], [(30, [(17, 115)]), (28, [(10, 46), (23, 47)]), (30, [(10, 24), (35, 25)]), (30, [(19, 15), (35, 16)])])
set_option maxRecDepth 100000 in
set_option maxHeartbeats 8000000 in
theorem ver32 (w : World) : Calls Try.prog 80 #[.int .i64 32] w (VerOut 32 row32 w) := by
  have nv := newVer6 w 32 [6, 34, 60, 86, 112, 138] 30 28 30 30 [(17, 115)] [(10, 46), (23, 47)] [(10, 24), (35, 25)] [(19, 15), (35, 16)] (by decide)
  have NV := hid nv
  clear nv
  go_enter Try.func80, Try.ntmps80
  go_wp2_with fail
  refine Calls.mono NV.out ?_
  rintro e w1 ⟨q, rfl, hv, hb⟩
  have HV := hid hv
  have HB := hid hb
  clear hv hb NV
  go_wp2_with fail
  go_ret
  exact ⟨q, rfl, HV.out, HB.out⟩

def row33 : VRow := ([6, 30, 58, 86, 114, 142], [(30, [(17, 115), (1, 116)]), (28, [(14, 46), (21, 47)]), (30, [(29, 24), (19, 25)]), (30, [(11, 15), (46, 16)])])
set_option maxRecDepth 100000 in
set_option maxHeartbeats 8000000 in
theorem ver33 (w : World) : Calls Try.prog 80 #[.int .i64 33] w (VerOut 33 row33 w) := by
  have nv := newVer6 w 33 [6, 30, 58, 86, 114, 142] 30 28 30 30 [(17, 115), (1, 116)] [(14, 46), (21, 47)] [(29, 24), (19, 25)] [(11, 15), (46, 16)] (by decide)
  have NV := hid nv
  clear nv
  go_enter Try.func80, Try.ntmps80
  go_wp2_with fail
  refine Calls.mono NV.out ?_
  rintro e w1 ⟨q, rfl, hv, hb⟩
  have HV := hid hv
  have HB := hid hb
  clear hv hb NV
  go_wp2_with fail
  go_ret
  exact ⟨q, rfl, HV.out, HB.out⟩

def row34 : VRow := ([6, 34, 62, 90, 118, 146], [(30, [(13, 115), (6, 116)]), (28, [(14, 46), (23, 47)]), (30, [(44, 24), (7, 25)]), (30, [(59, 16), (1, 17)])])
set_option maxRecDepth 100000 in
set_option maxHeartbeats 8000000 in
theorem ver34 (w : World) : Calls Try.prog 80 #[.int .i64 34] w (VerOut 34 row34 w) := by
  have nv := newVer6 w 34 [6, 34, 62, 90, 118, 146] 30 28 30 30 [(13, 115), (6, 116)] [(14, 46), (23, 47)] [(44, 24), (7, 25)] [(59, 16), (1, 17)] (by decide)
  have NV := hid nv
  clear nv
  go_enter Try.func80, Try.ntmps80
  go_wp2_with fail
  refine Calls.mono NV.out ?_
  rintro e w1 ⟨q, rfl, hv, hb⟩
  have HV := hid hv
  have HB := hid hb
  clear hv hb NV
  go_wp2_with fail
  go_ret
  exact ⟨q, rfl, HV.out, HB.out⟩

def row35 : VRow := ([6, 30, 54, 78, 102, 126, 150], [(30, [(12, 121), (7, 122)]), (28, [(12, 47), (26, 48)]), (30, [(39, 24), (14, 25)]), (30, [(22, 15), (41, 16)])])
set_option maxRecDepth 100000 in
set_option maxHeartbeats 8000000 in
theorem ver35 (w : World) : Calls Try.prog 80 #[.int .i64 35] w (VerOut 35 row35 w) := by
  have nv := newVer6 w 35 [6, 30, 54, 78, 102, 126, 150] 30 28 30 30 [(12, 121), (7, 122)] [(12, 47), (26, 48)] [(39, 24), (14, 25)] [(22, 15), (41, 16)] (by decide)
  have NV := hid nv
  clear nv
  go_enter Try.func80, Try.ntmps80
  go_wp2_with fail
  refine Calls.mono NV.out ?_
  rintro e w1 ⟨q, rfl, hv, hb⟩
  have HV := hid hv
  have HB := hid hb
  clear hv hb NV
  go_wp2_with fail
  go_ret
  exact ⟨q, rfl, HV.out, HB.out⟩

end Go.Proofs.Ytpffffhgmhpkiaa
