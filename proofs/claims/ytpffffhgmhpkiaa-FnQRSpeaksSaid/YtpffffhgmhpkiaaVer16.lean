/- decoder.versionOf, versions 16 to 20. Printed by gen_ver.py. -/
import Derived.Test.YtpffffhgmhpkiaaVerO
namespace Go.Proofs.Ytpffffhgmhpkiaa
open Go.RowKit
set_option linter.unusedVariables false

def row16 : VRow := ([6, 26, 50, 74], [(24, [(5, 98), (1, 99)]), (28, [(7, 45), (3, 46)]), (24, [(15, 19), (2, 20)]), (30, [(3, 15), (13, 16)])])
set_option maxRecDepth 100000 in
set_option maxHeartbeats 8000000 in
theorem ver16 (w : World) : Calls Try.prog 80 #[.int .i64 16] w (VerOut 16 row16 w) := by
  have nv := newVer6 w 16 [6, 26, 50, 74] 24 28 24 30 [(5, 98), (1, 99)] [(7, 45), (3, 46)] [(15, 19), (2, 20)] [(3, 15), (13, 16)] (by decide)
  have NV := hid nv
  clear nv
  go_enter Try.func80, Try.ntmps80
  go_wp2_with fail
  refine Calls.mono NV.out ?_
  rintro e w1 ⟨q, rfl, hv, hb⟩
  have HV := hid hv
  have HB := hid hb
  clear hv hb NV
  go_wp2_with fail
  go_ret
  exact ⟨q, rfl, HV.out, HB.out⟩

def row17 : VRow := ([6, 30, 54, 78], [(28, [(1, 107), (5, 108)]), (28, [(10, 46), (1, 47)]), (28, [(1, 22), (15, 23)]), (28, [(2, 14), (17, 15)])])
set_option maxRecDepth 100000 in
set_option maxHeartbeats 8000000 in
theorem ver17 (w : World) : Calls Try.prog 80 #[.int .i64 17] w (VerOut 17 row17 w) := by
  have nv := newVer6 w 17 [6, 30, 54, 78] 28 28 28 28 [(1, 107), (5, 108)] [(10, 46), (1, 47)] [(1, 22), (15, 23)] [(2, 14), (17, 15)] (by decide)
  have NV := hid nv
  clear nv
  go_enter Try.func80, Try.ntmps80
  go_wp2_with fail
  refine Calls.mono NV.out ?_
  rintro e w1 ⟨q, rfl, hv, hb⟩
  have HV := hid hv
  have HB := hid hb
  clear hv hb NV
  go_wp2_with fail
  go_ret
  exact ⟨q, rfl, HV.out, HB.out⟩

def row18 : VRow := ([6, 30, 56, 82], [(30, [(5, 120), (1, 121)]), (26, [(9, 43), (4, 44)]), (28, [(17, 22), (1, 23)]), (28, [(2, 14), (19, 15)])])
set_option maxRecDepth 100000 in
set_option maxHeartbeats 8000000 in
theorem ver18 (w : World) : Calls Try.prog 80 #[.int .i64 18] w (VerOut 18 row18 w) := by
  have nv := newVer6 w 18 [6, 30, 56, 82] 30 26 28 28 [(5, 120), (1, 121)] [(9, 43), (4, 44)] [(17, 22), (1, 23)] [(2, 14), (19, 15)] (by decide)
  have NV := hid nv
  clear nv
  go_enter Try.func80, Try.ntmps80
  go_wp2_with fail
  refine Calls.mono NV.out ?_
  rintro e w1 ⟨q, rfl, hv, hb⟩
  have HV := hid hv
  have HB := hid hb
  clear hv hb NV
  go_wp2_with fail
  go_ret
  exact ⟨q, rfl, HV.out, HB.out⟩

def row19 : VRow := ([6, 30, 58, 86], [(28, [(3, 113), (4, 114)]), (26, [(3, 44), (11, 45)]), (26, [(17, 21), (4, 22)]), (26, [(9, 13), (16, 14)])])
set_option maxRecDepth 100000 in
set_option maxHeartbeats 8000000 in
theorem ver19 (w : World) : Calls Try.prog 80 #[.int .i64 19] w (VerOut 19 row19 w) := by
  have nv := newVer6 w 19 [6, 30, 58, 86] 28 26 26 26 [(3, 113), (4, 114)] [(3, 44), (11, 45)] [(17, 21), (4, 22)] [(9, 13), (16, 14)] (by decide)
  have NV := hid nv
  clear nv
  go_enter Try.func80, Try.ntmps80
  go_wp2_with fail
  refine Calls.mono NV.out ?_
  rintro e w1 ⟨q, rfl, hv, hb⟩
  have HV := hid hv
  have HB := hid hb
  clear hv hb NV
  go_wp2_with fail
  go_ret
  exact ⟨q, rfl, HV.out, HB.out⟩

def row20 : VRow := ([6, 34, 62, 90], [(28, [(3, 107), (5, 108)]), (26, [(3, 41), (13, 42)]), (30, [(15, 24), (5, 25)]), (28, [(15, 15), (10, 16)])])
set_option maxRecDepth 100000 in
set_option maxHeartbeats 8000000 in
theorem ver20 (w : World) : Calls Try.prog 80 #[.int .i64 20] w (VerOut 20 row20 w) := by
  have nv := newVer6 w 20 [6, 34, 62, 90] 28 26 30 28 [(3, 107), (5, 108)] [(3, 41), (13, 42)] [(15, 24), (5, 25)] [(15, 15), (10, 16)] (by decide)
  have NV := hid nv
  clear nv
  go_enter Try.func80, Try.ntmps80
  go_wp2_with fail
  refine Calls.mono NV.out ?_
  rintro e w1 ⟨q, rfl, hv, hb⟩
  have HV := hid hv
  have HB := hid hb
  clear hv hb NV
  go_wp2_with fail
  go_ret
  exact ⟨q, rfl, HV.out, HB.out⟩

end Go.Proofs.Ytpffffhgmhpkiaa
