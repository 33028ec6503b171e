/- decoder.versionOf, versions 26 to 30. Printed by gen_ver.py. -/
import Derived.Test.YtpffffhgmhpkiaaVerO
namespace Go.Proofs.Ytpffffhgmhpkiaa
open Go.RowKit
set_option linter.unusedVariables false

def row26 : VRow := ([6, 30, 58, 86, 114], [(28, [(10, 114), (2, 115)]), (28, [(19, 46), (4, 47)]), (28, [(28, 22), (6, 23)]), (30, [(33, 16), (4, 17)])])
set_option maxRecDepth 100000 in
set_option maxHeartbeats 8000000 in
theorem ver26 (w : World) : Calls Try.prog 80 #[.int .i64 26] w (VerOut 26 row26 w) := by
  have nv := newVer6 w 26 [6, 30, 58, 86, 114] 28 28 28 30 [(10, 114), (2, 115)] [(19, 46), (4, 47)] [(28, 22), (6, 23)] [(33, 16), (4, 17)] (by decide)
  have NV := hid nv
  clear nv
  go_enter Try.func80, Try.ntmps80
  go_wp2_with fail
  refine Calls.mono NV.out ?_
  rintro e w1 ⟨q, rfl, hv, hb⟩
  have HV := hid hv
  have HB := hid hb
  clear hv hb NV
  go_wp2_with fail
  go_ret
  exact ⟨q, rfl, HV.out, HB.out⟩

def row27 : VRow := ([6, 34, 62, 90, 118], [(30, [(8, 122), (4, 123)]), (28, [(22, 45), (3, 46)]), (30, [(8, 23), (26, 24)]), (30, [(12, 15), (28, 16)])])
set_option maxRecDepth 100000 in
set_option maxHeartbeats 8000000 in
theorem ver27 (w : World) : Calls Try.prog 80 #[.int .i64 27] w (VerOut 27 row27 w) := by
  have nv := newVer6 w 27 [6, 34, 62, 90, 118] 30 28 30 30 [(8, 122), (4, 123)] [(22, 45), (3, 46)] [(8, 23), (26, 24)] [(12, 15), (28, 16)] (by decide)
  have NV := hid nv
  clear nv
  go_enter Try.func80, Try.ntmps80
  go_wp2_with fail
  refine Calls.mono NV.out ?_
  rintro e w1 ⟨q, rfl, hv, hb⟩
  have HV := hid hv
  have HB := hid hb
  clear hv hb NV
  go_wp2_with fail
  go_ret
  exact ⟨q, rfl, HV.out, HB.out⟩

def row28 : VRow := ([6, 26, 50, 74, 98, 122], [(30, [(3, 117), (10, 118)]), (28, [(3, 45), (23, 46)]), (30, [(4, 24), (31, 25)]), (30, [(11, 15), (31, 16)])])
set_option maxRecDepth 100000 in
set_option maxHeartbeats 8000000 in
theorem ver28 (w : World) : Calls Try.prog 80 #[.int .i64 28] w (VerOut 28 row28 w) := by
  have nv := newVer6 w 28 [6, 26, 50, 74, 98, 122] 30 28 30 30 [(3, 117), (10, 118)] [(3, 45), (23, 46)] [(4, 24), (31, 25)] [(11, 15), (31, 16)] (by decide)
  have NV := hid nv
  clear nv
  go_enter Try.func80, Try.ntmps80
  go_wp2_with fail
  refine Calls.mono NV.out ?_
  rintro e w1 ⟨q, rfl, hv, hb⟩
  have HV := hid hv
  have HB := hid hb
  clear hv hb NV
  go_wp2_with fail
  go_ret
  exact ⟨q, rfl, HV.out, HB.out⟩

def row29 : VRow := ([6, 30, 54, 78, 102, 126], [(30, [(7, 116), (7, 117)]), (28, [(21, 45), (7, 46)]), (30, [(1, 23), (37, 24)]), (30, [(19, 15), (26, 16)])])
set_option maxRecDepth 100000 in
set_option maxHeartbeats 8000000 in
theorem ver29 (w : World) : Calls Try.prog 80 #[.int .i64 29] w (VerOut 29 row29 w) := by
  have nv := newVer6 w 29 [6, 30, 54, 78, 102, 126] 30 28 30 30 [(7, 116), (7, 117)] [(21, 45), (7, 46)] [(1, 23), (37, 24)] [(19, 15), (26, 16)] (by decide)
  have NV := hid nv
  clear nv
  go_enter Try.func80, Try.ntmps80
  go_wp2_with fail
  refine Calls.mono NV.out ?_
  rintro e w1 ⟨q, rfl, hv, hb⟩
  have HV := hid hv
  have HB := hid hb
  clear hv hb NV
  go_wp2_with fail
  go_ret
  exact ⟨q, rfl, HV.out, HB.out⟩

def row30 : VRow := ([6, 26, 52, 78, 104, 130], [(30, [(5, 115), (10, 116)]), (28, [(19, 47), (10, 48)]), (30, [(15, 24), (25, 25)]), (30, [(23, 15), (25, 16)])])
set_option maxRecDepth 100000 in
set_option maxHeartbeats 8000000 in
theorem ver30 (w : World) : Calls Try.prog 80 #[.int .i64 30] w (VerOut 30 row30 w) := by
  have nv := newVer6 w 30 [6, 26, 52, 78, 104, 130] 30 28 30 30 [(5, 115), (10, 116)] [(19, 47), (10, 48)] [(15, 24), (25, 25)] [(23, 15), (25, 16)] (by decide)
  have NV := hid nv
  clear nv
  go_enter Try.func80, Try.ntmps80
  go_wp2_with fail
  refine Calls.mono NV.out ?_
  rintro e w1 ⟨q, rfl, hv, hb⟩
  have HV := hid hv
  have HB := hid hb
  clear hv hb NV
  go_wp2_with fail
  go_ret
  exact ⟨q, rfl, HV.out, HB.out⟩

end Go.Proofs.Ytpffffhgmhpkiaa
