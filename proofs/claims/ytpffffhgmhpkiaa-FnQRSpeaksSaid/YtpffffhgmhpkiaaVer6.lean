/- decoder.versionOf, versions 6 to 10. Printed by gen_ver.py. -/
import Derived.Test.YtpffffhgmhpkiaaVerO
namespace Go.Proofs.Ytpffffhgmhpkiaa
open Go.RowKit
set_option linter.unusedVariables false

def row6 : VRow := ([6, 34], [(18, [(2, 68)]), (16, [(4, 27)]), (24, [(4, 19)]), (28, [(4, 15)])])
set_option maxRecDepth 100000 in
set_option maxHeartbeats 8000000 in
theorem ver6 (w : World) : Calls Try.prog 80 #[.int .i64 6] w (VerOut 6 row6 w) := by
  have nv := newVer6 w 6 [6, 34] 18 16 24 28 [(2, 68)] [(4, 27)] [(4, 19)] [(4, 15)] (by decide)
  have NV := hid nv
  clear nv
  go_enter Try.func80, Try.ntmps80
  go_wp2_with fail
  refine Calls.mono NV.out ?_
  rintro e w1 ⟨q, rfl, hv, hb⟩
  have HV := hid hv
  have HB := hid hb
  clear hv hb NV
  go_wp2_with fail
  go_ret
  exact ⟨q, rfl, HV.out, HB.out⟩

def row7 : VRow := ([6, 22, 38], [(20, [(2, 78)]), (18, [(4, 31)]), (18, [(2, 14), (4, 15)]), (26, [(4, 13), (1, 14)])])
set_option maxRecDepth 100000 in
set_option maxHeartbeats 8000000 in
theorem ver7 (w : World) : Calls Try.prog 80 #[.int .i64 7] w (VerOut 7 row7 w) := by
  have nv := newVer6 w 7 [6, 22, 38] 20 18 18 26 [(2, 78)] [(4, 31)] [(2, 14), (4, 15)] [(4, 13), (1, 14)] (by decide)
  have NV := hid nv
  clear nv
  go_enter Try.func80, Try.ntmps80
  go_wp2_with fail
  refine Calls.mono NV.out ?_
  rintro e w1 ⟨q, rfl, hv, hb⟩
  have HV := hid hv
  have HB := hid hb
  clear hv hb NV
  go_wp2_with fail
  go_ret
  exact ⟨q, rfl, HV.out, HB.out⟩

def row8 : VRow := ([6, 24, 42], [(24, [(2, 97)]), (22, [(2, 38), (2, 39)]), (22, [(4, 18), (2, 19)]), (26, [(4, 14), (2, 15)])])
set_option maxRecDepth 100000 in
set_option maxHeartbeats 8000000 in
theorem ver8 (w : World) : Calls Try.prog 80 #[.int .i64 8] w (VerOut 8 row8 w) := by
  have nv := newVer6 w 8 [6, 24, 42] 24 22 22 26 [(2, 97)] [(2, 38), (2, 39)] [(4, 18), (2, 19)] [(4, 14), (2, 15)] (by decide)
  have NV := hid nv
  clear nv
  go_enter Try.func80, Try.ntmps80
  go_wp2_with fail
  refine Calls.mono NV.out ?_
  rintro e w1 ⟨q, rfl, hv, hb⟩
  have HV := hid hv
  have HB := hid hb
  clear hv hb NV
  go_wp2_with fail
  go_ret
  exact ⟨q, rfl, HV.out, HB.out⟩

def row9 : VRow := ([6, 26, 46], [(30, [(2, 116)]), (22, [(3, 36), (2, 37)]), (20, [(4, 16), (4, 17)]), (24, [(4, 12), (4, 13)])])
set_option maxRecDepth 100000 in
set_option maxHeartbeats 8000000 in
theorem ver9 (w : World) : Calls Try.prog 80 #[.int .i64 9] w (VerOut 9 row9 w) := by
  have nv := newVer6 w 9 [6, 26, 46] 30 22 20 24 [(2, 116)] [(3, 36), (2, 37)] [(4, 16), (4, 17)] [(4, 12), (4, 13)] (by decide)
  have NV := hid nv
  clear nv
  go_enter Try.func80, Try.ntmps80
  go_wp2_with fail
  refine Calls.mono NV.out ?_
  rintro e w1 ⟨q, rfl, hv, hb⟩
  have HV := hid hv
  have HB := hid hb
  clear hv hb NV
  go_wp2_with fail
  go_ret
  exact ⟨q, rfl, HV.out, HB.out⟩

def row10 : VRow := ([6, 28, 50], [(18, [(2, 68), (2, 69)]), (26, [(4, 43), (1, 44)]), (24, [(6, 19), (2, 20)]), (28, [(6, 15), (2, 16)])])
set_option maxRecDepth 100000 in
set_option maxHeartbeats 8000000 in
theorem ver10 (w : World) : Calls Try.prog 80 #[.int .i64 10] w (VerOut 10 row10 w) := by
  have nv := newVer6 w 10 [6, 28, 50] 18 26 24 28 [(2, 68), (2, 69)] [(4, 43), (1, 44)] [(6, 19), (2, 20)] [(6, 15), (2, 16)] (by decide)
  have NV := hid nv
  clear nv
  go_enter Try.func80, Try.ntmps80
  go_wp2_with fail
  refine Calls.mono NV.out ?_
  rintro e w1 ⟨q, rfl, hv, hb⟩
  have HV := hid hv
  have HB := hid hb
  clear hv hb NV
  go_wp2_with fail
  go_ret
  exact ⟨q, rfl, HV.out, HB.out⟩

end Go.Proofs.Ytpffffhgmhpkiaa
