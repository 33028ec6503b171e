/- decoder.versionOf, versions 21 to 25. Printed by gen_ver.py. -/
import Derived.Test.YtpffffhgmhpkiaaVerO
namespace Go.Proofs.Ytpffffhgmhpkiaa
open Go.RowKit
set_option linter.unusedVariables false

def row21 : VRow := ([6, 28, 50, 72, 94], [(28, [(4, 116), (4, 117)]), (26, [(17, 42)]), (28, [(17, 22), (6, 23)]), (30, [(19, 16), (6, 17)])])
set_option maxRecDepth 100000 in
set_option maxHeartbeats 8000000 in
theorem ver21 (w : World) : Calls Try.prog 80 #[.int .i64 21] w (VerOut 21 row21 w) := by
  have nv := newVer6 w 21 [6, 28, 50, 72, 94] 28 26 28 30 [(4, 116), (4, 117)] [(17, 42)] [(17, 22), (6, 23)] [(19, 16), (6, 17)] (by decide)
  have NV := hid nv
  clear nv
  go_enter Try.func80, Try.ntmps80
  go_wp2_with fail
  refine Calls.mono NV.out ?_
  rintro e w1 ⟨q, rfl, hv, hb⟩
  have HV := hid hv
  have HB := hid hb
  clear hv hb NV
  go_wp2_with fail
  go_ret
  exact ⟨q, rfl, HV.out, HB.out⟩

def row22 : VRow := ([6, 26, 50, 74, 98], [(28, [(2, 111), (7, 112)]), (28, [(17, 46)]), (30, [(7, 24), (16, 25)]), (24, [(34, 13)])])
set_option maxRecDepth 100000 in
set_option maxHeartbeats 8000000 in
theorem ver22 (w : World) : Calls Try.prog 80 #[.int .i64 22] w (VerOut 22 row22 w) := by
  have nv := newVer6 w 22 [6, 26, 50, 74, 98] 28 28 30 24 [(2, 111), (7, 112)] [(17, 46)] [(7, 24), (16, 25)] [(34, 13)] (by decide)
  have NV := hid nv
  clear nv
  go_enter Try.func80, Try.ntmps80
  go_wp2_with fail
  refine Calls.mono NV.out ?_
  rintro e w1 ⟨q, rfl, hv, hb⟩
  have HV := hid hv
  have HB := hid hb
  clear hv hb NV
  go_wp2_with fail
  go_ret
  exact ⟨q, rfl, HV.out, HB.out⟩

def row23 : VRow := ([6, 30, 54, 78, 102], [(30, [(4, 121), (5, 122)]), (28, [(4, 47), (14, 48)]), (30, [(11, 24), (14, 25)]), (30, [(16, 15), (14, 16)])])
set_option maxRecDepth 100000 in
set_option maxHeartbeats 8000000 in
theorem ver23 (w : World) : Calls Try.prog 80 #[.int .i64 23] w (VerOut 23 row23 w) := by
  have nv := newVer6 w 23 [6, 30, 54, 78, 102] 30 28 30 30 [(4, 121), (5, 122)] [(4, 47), (14, 48)] [(11, 24), (14, 25)] [(16, 15), (14, 16)] (by decide)
  have NV := hid nv
  clear nv
  go_enter Try.func80, Try.ntmps80
  go_wp2_with fail
  refine Calls.mono NV.out ?_
  rintro e w1 ⟨q, rfl, hv, hb⟩
  have HV := hid hv
  have HB := hid hb
  clear hv hb NV
  go_wp2_with fail
  go_ret
  exact ⟨q, rfl, HV.out, HB.out⟩

def row24 : VRow := ([6, 28, 54, 80, 106], [(30, [(6, 117), (4, 118)]), (28, [(6, 45), (14, 46)]), (30, [(11, 24), (16, 25)]), (30, [(30, 16), (2, 17)])])
set_option maxRecDepth 100000 in
set_option maxHeartbeats 8000000 in
theorem ver24 (w : World) : Calls Try.prog 80 #[.int .i64 24] w (VerOut 24 row24 w) := by
  have nv := newVer6 w 24 [6, 28, 54, 80, 106] 30 28 30 30 [(6, 117), (4, 118)] [(6, 45), (14, 46)] [(11, 24), (16, 25)] [(30, 16), (2, 17)] (by decide)
  have NV := hid nv
  clear nv
  go_enter Try.func80, Try.ntmps80
  go_wp2_with fail
  refine Calls.mono NV.out ?_
  rintro e w1 ⟨q, rfl, hv, hb⟩
  have HV := hid hv
  have HB := hid hb
  clear hv hb NV
  go_wp2_with fail
  go_ret
  exact ⟨q, rfl, HV.out, HB.out⟩

def row25 : VRow := ([6, 32, 58, 84, 110], [(26, [(8, 106), (4, 107)]), (28, [(8, 47), (13, 48)]), (30, [(7, 24), (22, 25)]), (30, [(22, 15), (13, 16)])])
set_option maxRecDepth 100000 in
set_option maxHeartbeats 8000000 in
theorem ver25 (w : World) : Calls Try.prog 80 #[.int .i64 25] w (VerOut 25 row25 w) := by
  have nv := newVer6 w 25 [6, 32, 58, 84, 110] 26 28 30 30 [(8, 106), (4, 107)] [(8, 47), (13, 48)] [(7, 24), (22, 25)] [(22, 15), (13, 16)] (by decide)
  have NV := hid nv
  clear nv
  go_enter Try.func80, Try.ntmps80
  go_wp2_with fail
  refine Calls.mono NV.out ?_
  rintro e w1 ⟨q, rfl, hv, hb⟩
  have HV := hid hv
  have HB := hid hb
  clear hv hb NV
  go_wp2_with fail
  go_ret
  exact ⟨q, rfl, HV.out, HB.out⟩

end Go.Proofs.Ytpffffhgmhpkiaa
