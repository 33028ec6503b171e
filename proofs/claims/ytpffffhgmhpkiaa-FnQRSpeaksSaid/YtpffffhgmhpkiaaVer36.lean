/- decoder.versionOf, versions 36 to 40. Printed by gen_ver.py. -/
import Derived.Test.YtpffffhgmhpkiaaVerO
namespace Go.Proofs.Ytpffffhgmhpkiaa
open Go.RowKit
set_option linter.unusedVariables false

def row36 : VRow := ([6, 24, 50, 76, 102, 128, 154], [(30, [(6, 121), (14, 122)]), (28, [(6, 47), (34, 48)]), (30, [(46, 24), (10, 25)]), (30, [(2, 15), (64, 16)])])
set_option maxRecDepth 100000 in
set_option maxHeartbeats 8000000 in
theorem ver36 (w : World) : Calls Try.prog 80 #[.int .i64 36] w (VerOut 36 row36 w) := by
  have nv := newVer6 w 36 [6, 24, 50, 76, 102, 128, 154] 30 28 30 30 [(6, 121), (14, 122)] [(6, 47), (34, 48)] [(46, 24), (10, 25)] [(2, 15), (64, 16)] (by decide)
  have NV := hid nv
  clear nv
  go_enter Try.func80, Try.ntmps80
  go_wp2_with fail
  refine Calls.mono NV.out ?_
  rintro e w1 ⟨q, rfl, hv, hb⟩
  have HV := hid hv
  have HB := hid hb
  clear hv hb NV
  go_wp2_with fail
  go_ret
  exact ⟨q, rfl, HV.out, HB.out⟩

def row37 : VRow := ([6, 28, 54, 80, 106, 132, 158], [(30, [(17, 122), (4, 123)]), (28, [(29, 46), (14, 47)]), (30, [(49, 24), (10, 25)]), (30, [(24, 15), (46, 16)])])
set_option maxRecDepth 100000 in
set_option maxHeartbeats 8000000 in
theorem ver37 (w : World) : Calls Try.prog 80 #[.int .i64 37] w (VerOut 37 row37 w) := by
  have nv := newVer6 w 37 [6, 28, 54, 80, 106, 132, 158] 30 28 30 30 [(17, 122), (4, 123)] [(29, 46), (14, 47)] [(49, 24), (10, 25)] [(24, 15), (46, 16)] (by decide)
  have NV := hid nv
  clear nv
  go_enter Try.func80, Try.ntmps80
  go_wp2_with fail
  refine Calls.mono NV.out ?_
  rintro e w1 ⟨q, rfl, hv, hb⟩
  have HV := hid hv
  have HB := hid hb
  clear hv hb NV
  go_wp2_with fail
  go_ret
  exact ⟨q, rfl, HV.out, HB.out⟩

def row38 : VRow := ([6, 32, 58, 84, 110, 136, 162], [(30, [(4, 122), (18, 123)]), (28, [(13, 46), (32, 47)]), (30, [(48, 24), (14, 25)]), (30, [(42, 15), (32, 16)])])
set_option maxRecDepth 100000 in
set_option maxHeartbeats 8000000 in
theorem ver38 (w : World) : Calls Try.prog 80 #[.int .i64 38] w (VerOut 38 row38 w) := by
  have nv := newVer6 w 38 [6, 32, 58, 84, 110, 136, 162] 30 28 30 30 [(4, 122), (18, 123)] [(13, 46), (32, 47)] [(48, 24), (14, 25)] [(42, 15), (32, 16)] (by decide)
  have NV := hid nv
  clear nv
  go_enter Try.func80, Try.ntmps80
  go_wp2_with fail
  refine Calls.mono NV.out ?_
  rintro e w1 ⟨q, rfl, hv, hb⟩
  have HV := hid hv
  have HB := hid hb
  clear hv hb NV
  go_wp2_with fail
  go_ret
  exact ⟨q, rfl, HV.out, HB.out⟩

def row39 : VRow := ([6, 26, 54, 82, 110, 138, 166], [(30, [(20, 117), (4, 118)]), (28, [(40, 47), (7, 48)]), (30, [(43, 24), (22, 25)]), (30, [(10, 15), (67, 16)])])
set_option maxRecDepth 100000 in
set_option maxHeartbeats 8000000 in
theorem ver39 (w : World) : Calls Try.prog 80 #[.int .i64 39] w (VerOut 39 row39 w) := by
  have nv := newVer6 w 39 [6, 26, 54, 82, 110, 138, 166] 30 28 30 30 [(20, 117), (4, 118)] [(40, 47), (7, 48)] [(43, 24), (22, 25)] [(10, 15), (67, 16)] (by decide)
  have NV := hid nv
  clear nv
  go_enter Try.func80, Try.ntmps80
  go_wp2_with fail
  refine Calls.mono NV.out ?_
  rintro e w1 ⟨q, rfl, hv, hb⟩
  have HV := hid hv
  have HB := hid hb
  clear hv hb NV
  go_wp2_with fail
  go_ret
  exact ⟨q, rfl, HV.out, HB.out⟩

def row40 : VRow := ([6, 30, 58, 86, 114, 142, 170], [(30, [(19, 118), (6, 119)]), (28, [(18, 47), (31, 48)]), (30, [(34, 24), (34, 25)]), (30, [(20, 15), (61, 16)])])
set_option maxRecDepth 100000 in
set_option maxHeartbeats 8000000 in
theorem ver40 (w : World) : Calls Try.prog 80 #[.int .i64 40] w (VerOut 40 row40 w) := by
  have nv := newVer6 w 40 [6, 30, 58, 86, 114, 142, 170] 30 28 30 30 [(19, 118), (6, 119)] [(18, 47), (31, 48)] [(34, 24), (34, 25)] [(20, 15), (61, 16)] (by decide)
  have NV := hid nv
  clear nv
  go_enter Try.func80, Try.ntmps80
  go_wp2_with fail
  refine Calls.mono NV.out ?_
  rintro e w1 ⟨q, rfl, hv, hb⟩
  have HV := hid hv
  have HB := hid hb
  clear hv hb NV
  go_wp2_with fail
  go_ret
  exact ⟨q, rfl, HV.out, HB.out⟩

end Go.Proofs.Ytpffffhgmhpkiaa
