/- decoder.versionOf, versions 11 to 15. Printed by gen_ver.py. -/
import Derived.Test.YtpffffhgmhpkiaaVerO
namespace Go.Proofs.Ytpffffhgmhpkiaa
open Go.RowKit
set_option linter.unusedVariables false

def row11 : VRow := ([6, 30, 54], [(20, [(4, 81)]), (30, [(1, 50), (4, 51)]), (28, [(4, 22), (4, 23)]), (24, [(3, 12), (8, 13)])])
set_option maxRecDepth 100000 in
set_option maxHeartbeats 8000000 in
theorem ver11 (w : World) : Calls Try.prog 80 #[.int .i64 11] w (VerOut 11 row11 w) := by
  have nv := newVer6 w 11 [6, 30, 54] 20 30 28 24 [(4, 81)] [(1, 50), (4, 51)] [(4, 22), (4, 23)] [(3, 12), (8, 13)] (by decide)
  have NV := hid nv
  clear nv
  go_enter Try.func80, Try.ntmps80
  go_wp2_with fail
  refine Calls.mono NV.out ?_
  rintro e w1 ⟨q, rfl, hv, hb⟩
  have HV := hid hv
  have HB := hid hb
  clear hv hb NV
  go_wp2_with fail
  go_ret
  exact ⟨q, rfl, HV.out, HB.out⟩

def row12 : VRow := ([6, 32, 58], [(24, [(2, 92), (2, 93)]), (22, [(6, 36), (2, 37)]), (26, [(4, 20), (6, 21)]), (28, [(7, 14), (4, 15)])])
set_option maxRecDepth 100000 in
set_option maxHeartbeats 8000000 in
theorem ver12 (w : World) : Calls Try.prog 80 #[.int .i64 12] w (VerOut 12 row12 w) := by
  have nv := newVer6 w 12 [6, 32, 58] 24 22 26 28 [(2, 92), (2, 93)] [(6, 36), (2, 37)] [(4, 20), (6, 21)] [(7, 14), (4, 15)] (by decide)
  have NV := hid nv
  clear nv
  go_enter Try.func80, Try.ntmps80
  go_wp2_with fail
  refine Calls.mono NV.out ?_
  rintro e w1 ⟨q, rfl, hv, hb⟩
  have HV := hid hv
  have HB := hid hb
  clear hv hb NV
  go_wp2_with fail
  go_ret
  exact ⟨q, rfl, HV.out, HB.out⟩

def row13 : VRow := ([6, 34, 62], [(26, [(4, 107)]), (22, [(8, 37), (1, 38)]), (24, [(8, 20), (4, 21)]), (22, [(12, 11), (4, 12)])])
set_option maxRecDepth 100000 in
set_option maxHeartbeats 8000000 in
theorem ver13 (w : World) : Calls Try.prog 80 #[.int .i64 13] w (VerOut 13 row13 w) := by
  have nv := newVer6 w 13 [6, 34, 62] 26 22 24 22 [(4, 107)] [(8, 37), (1, 38)] [(8, 20), (4, 21)] [(12, 11), (4, 12)] (by decide)
  have NV := hid nv
  clear nv
  go_enter Try.func80, Try.ntmps80
  go_wp2_with fail
  refine Calls.mono NV.out ?_
  rintro e w1 ⟨q, rfl, hv, hb⟩
  have HV := hid hv
  have HB := hid hb
  clear hv hb NV
  go_wp2_with fail
  go_ret
  exact ⟨q, rfl, HV.out, HB.out⟩

def row14 : VRow := ([6, 26, 46, 66], [(30, [(3, 115), (1, 116)]), (24, [(4, 40), (5, 41)]), (20, [(11, 16), (5, 17)]), (24, [(11, 12), (5, 13)])])
set_option maxRecDepth 100000 in
set_option maxHeartbeats 8000000 in
theorem ver14 (w : World) : Calls Try.prog 80 #[.int .i64 14] w (VerOut 14 row14 w) := by
  have nv := newVer6 w 14 [6, 26, 46, 66] 30 24 20 24 [(3, 115), (1, 116)] [(4, 40), (5, 41)] [(11, 16), (5, 17)] [(11, 12), (5, 13)] (by decide)
  have NV := hid nv
  clear nv
  go_enter Try.func80, Try.ntmps80
  go_wp2_with fail
  refine Calls.mono NV.out ?_
  rintro e w1 ⟨q, rfl, hv, hb⟩
  have HV := hid hv
  have HB := hid hb
  clear hv hb NV
  go_wp2_with fail
  go_ret
  exact ⟨q, rfl, HV.out, HB.out⟩

def row15 : VRow := ([6, 26, 48, 70], [(22, [(5, 87), (1, 88)]), (24, [(5, 41), (5, 42)]), (30, [(5, 24), (7, 25)]), (24, [(11, 12), (7, 13)])])
set_option maxRecDepth 100000 in
set_option maxHeartbeats 8000000 in
theorem ver15 (w : World) : Calls Try.prog 80 #[.int .i64 15] w (VerOut 15 row15 w) := by
  have nv := newVer6 w 15 [6, 26, 48, 70] 22 24 30 24 [(5, 87), (1, 88)] [(5, 41), (5, 42)] [(5, 24), (7, 25)] [(11, 12), (7, 13)] (by decide)
  have NV := hid nv
  clear nv
  go_enter Try.func80, Try.ntmps80
  go_wp2_with fail
  refine Calls.mono NV.out ?_
  rintro e w1 ⟨q, rfl, hv, hb⟩
  have HV := hid hv
  have HB := hid hb
  clear hv hb NV
  go_wp2_with fail
  go_ret
  exact ⟨q, rfl, HV.out, HB.out⟩

end Go.Proofs.Ytpffffhgmhpkiaa
