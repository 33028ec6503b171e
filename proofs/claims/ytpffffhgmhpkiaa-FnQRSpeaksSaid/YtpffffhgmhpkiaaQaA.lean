/- QR codes: small functions of the standard's symbols: spec.QRDimension, qrFar, qrRest, QRFormatBits, QRVersionBits, QRMaskBit, and laws.qrVersion, qrLevel, qrMask. -/
import Derived.Test.YtpffffhgmhpkiaaQrL
import Derived.Test.YtpffffhgmhpkiaaCenL
import Derived.Test.YtpffffhgmhpkiaaGrid
import Derived.Test.YtpffffhgmhpkiaaProg
import Derived.Test.YtpffffhgmhpkiaaDnA
import Derived.BigQuiet
import Derived.Deep.QuietTactic
import Derived.KernelRfl
import Derived.Deep.RegionHeld3
import Derived.Deep.LoopGhost
namespace Go.Proofs.Ytpffffhgmhpkiaa
open Go.RowKit
set_option linter.unusedVariables false

set_option maxRecDepth 20000 in
theorem dimQ (v : Nat) (hv : v ≤ 40) (w : World) : Calls Try.prog 58 #[.int .i64 v] w fun e w' => e = .returned (.int .i64 (17 + 4 * v : Nat)) ∧ w = w' := by
  have e1 : (17 : Int) + 4 * (v : Int) = ((17 + 4 * v : Nat) : Int) := by omega
  rw [← e1]
  clear e1
  go_enter Try.func58, Try.ntmps58
  go_wp2_with fail
  go_ret
  exact ⟨rfl, rfl⟩
set_option maxRecDepth 20000 in
theorem qrVer (z : Nat) (h1 : z ≤ 255) (w : World) : Calls Try.prog 13 #[.int .u8 z] w fun e w' => e = .returned (.int .i64 ((z % 40 + 1 : Nat) : Int)) ∧ w = w' := by
  go_enter Try.func13, Try.ntmps13
  go_wp2_with fail
  go_ret
  exact ⟨congrArg (fun x => Ending.returned (.int .i64 x)) (show _ = ((z % 40 + 1 : Nat) : Int) by omega), rfl⟩
set_option maxRecDepth 20000 in
theorem qrLev (z : Nat) (h1 : z ≤ 255) (w : World) : Calls Try.prog 16 #[.int .u8 z] w fun e w' => e = .returned (.int .i64 ((z % 4 : Nat) : Int)) ∧ w = w' := by
  go_enter Try.func16, Try.ntmps16
  go_wp2_with fail
  go_ret
  exact ⟨congrArg (fun x => Ending.returned (.int .i64 x)) (show _ = ((z % 4 : Nat) : Int) by omega), rfl⟩
set_option maxRecDepth 20000 in
theorem qrMsk (z : Nat) (h1 : z ≤ 255) (w : World) : Calls Try.prog 17 #[.int .u8 z] w fun e w' => e = .returned (.int .i64 ((z % 8 : Nat) : Int)) ∧ w = w' := by
  go_enter Try.func17, Try.ntmps17
  go_wp2_with fail
  go_ret
  exact ⟨congrArg (fun x => Ending.returned (.int .i64 x)) (show _ = ((z % 8 : Nat) : Int) by omega), rfl⟩
/-- A number that is no less than any of the four differences. -/
def FarOut (r c a b : Int) (w : World) (e : Ending) (w' : World) : Prop :=
  ∃ d : Int, e = .returned (.int .i64 d) ∧ 0 ≤ d ∧ d ≤ 2000 ∧ r - a ≤ d ∧ a - r ≤ d ∧ c - b ≤ d ∧ b - c ≤ d ∧ (d = r - a ∨ d = a - r ∨ d = c - b ∨ d = b - c) ∧ w = w'
set_option maxRecDepth 20000 in
theorem farQ (r c a b : Int) (hr0 : 0 ≤ r) (hr : r ≤ 1000) (hc0 : 0 ≤ c) (hc : c ≤ 1000) (ha0 : 0 ≤ a) (ha : a ≤ 1000) (hb0 : 0 ≤ b) (hb : b ≤ 1000) (w : World) :
    Calls Try.prog 109 #[.int .i64 r, .int .i64 c, .int .i64 a, .int .i64 b] w (FarOut r c a b w) := by
  by_cases h1 : r - a < a - r
  · by_cases h2 : c - b < b - c
    · by_cases h3 : a - r < b - c
      · go_enter Try.func109, Try.ntmps109
        go_wp2_with fail
        go_ret
        exact ⟨_, rfl, by omega, by omega, by omega, by omega, by omega, by omega, by omega, rfl⟩
      · go_enter Try.func109, Try.ntmps109
        go_wp2_with fail
        go_ret
        exact ⟨_, rfl, by omega, by omega, by omega, by omega, by omega, by omega, by omega, rfl⟩
    · by_cases h3 : a - r < c - b
      · go_enter Try.func109, Try.ntmps109
        go_wp2_with fail
        go_ret
        exact ⟨_, rfl, by omega, by omega, by omega, by omega, by omega, by omega, by omega, rfl⟩
      · go_enter Try.func109, Try.ntmps109
        go_wp2_with fail
        go_ret
        exact ⟨_, rfl, by omega, by omega, by omega, by omega, by omega, by omega, by omega, rfl⟩
  · by_cases h2 : c - b < b - c
    · by_cases h3 : r - a < b - c
      · go_enter Try.func109, Try.ntmps109
        go_wp2_with fail
        go_ret
        exact ⟨_, rfl, by omega, by omega, by omega, by omega, by omega, by omega, by omega, rfl⟩
      · go_enter Try.func109, Try.ntmps109
        go_wp2_with fail
        go_ret
        exact ⟨_, rfl, by omega, by omega, by omega, by omega, by omega, by omega, by omega, rfl⟩
    · by_cases h3 : r - a < c - b
      · go_enter Try.func109, Try.ntmps109
        go_wp2_with fail
        go_ret
        exact ⟨_, rfl, by omega, by omega, by omega, by omega, by omega, by omega, by omega, rfl⟩
      · go_enter Try.func109, Try.ntmps109
        go_wp2_with fail
        go_ret
        exact ⟨_, rfl, by omega, by omega, by omega, by omega, by omega, by omega, by omega, rfl⟩
/-- Division by a polynomial, j steps of it. -/
def rst (poly b v : Nat) : Nat → Nat
  | 0 => v
  | j + 1 => if rst poly b v j / 2 ^ (17 - j) % 2 = 1 then rst poly b v j ^^^ (poly * 2 ^ (17 - j + 1 - b)) else rst poly b v j
theorem rst_lt (poly b v : Nat) (hp : poly < 2 ^ b) (hb : b ≤ 18) (hv : v < 2 ^ 18) : ∀ j, j + b ≤ 19 → rst poly b v j < 2 ^ 18
  | 0, _ => hv
  | j + 1, h => by
    have ih := rst_lt poly b v hp hb hv j (by omega)
    rw [rst]
    split
    · refine Nat.xor_lt_two_pow ih ?_
      have : poly * 2 ^ (17 - j + 1 - b) < 2 ^ b * 2 ^ (17 - j + 1 - b) := Nat.mul_lt_mul_of_pos_right hp (Nat.two_pow_pos _)
      rw [← Nat.pow_add] at this
      refine Nat.lt_of_lt_of_le this (Nat.pow_le_pow_right (by decide) (by omega))
    · exact ih
/-- The lowest bit of a number that was shifted. -/
theorem andOne (x k : Nat) (hx : x < 262144) : bits .and .i64 ((x : Int) / 2 ^ k) 1 = ((x / 2 ^ k % 2 : Nat) : Int) := by
  have h2 : ((x : Int) / 2 ^ k) = ((x / 2 ^ k : Nat) : Int) := by rw [Int.natCast_ediv, Int.natCast_pow]; rfl
  have hle : x / 2 ^ k ≤ x := Nat.div_le_self _ _
  rw [h2]
  have := i64_and (x / 2 ^ k) 1 (by omega) (by omega)
  rw [Nat.and_one_is_mod] at this
  exact this
theorem xorShift (x poly k : Nat) (hx : x < 262144) (hp : poly * 2 ^ k < 262144) : bits .xor .i64 (x : Int) (wrap64 ((poly : Int) * 2 ^ k)) = ((x ^^^ poly * 2 ^ k : Nat) : Int) := by
  have h4 : ((poly : Int) * 2 ^ k) = ((poly * 2 ^ k : Nat) : Int) := by rw [Int.natCast_mul, Int.natCast_pow]; rfl
  rw [h4, wrap64_nat _ (by omega), i64_xor _ _ (by omega) (by omega)]
set_option maxRecDepth 20000 in
set_option maxHeartbeats 4000000 in
theorem restQ (v poly b : Nat) (hp : poly < 2 ^ b) (hb1 : 2 ≤ b) (hb : b ≤ 18) (hv : v < 2 ^ 18) (w : World) :
    Calls Try.prog 106 #[.int .i64 v, .int .i64 poly, .int .i64 b] w fun e w' => e = .returned (.int .i64 (rst poly b v (19 - b))) ∧ ∃ m, w.drewN m = w' := by
  have HR := hid (rst_lt poly b v hp hb hv)
  have HP := hid hp
  have HS := hid (fun j => (show rst poly b v (j + 1) = if rst poly b v j / 2 ^ (17 - j) % 2 = 1 then rst poly b v j ^^^ (poly * 2 ^ (17 - j + 1 - b)) else rst poly b v j from rfl))
  have h0 : rst poly b v 0 = v := rfl
  obtain ⟨R, hR⟩ : ∃ R, R = rst poly b v := ⟨_, rfl⟩
  rw [← hR] at HR HS h0 ⊢
  have hpl : poly < 262144 := Nat.lt_of_lt_of_le hp (Nat.pow_le_pow_right (by decide) hb)
  clear hR hp
  go_enter Try.func106, Try.ntmps106
  go_wp2_with fail
  go_loopw [0, 7] (fun vv iv wr => ∃ j, j + b ≤ 19 ∧ vv = .int .i64 (R j) ∧ iv = .int .i64 ((17 : Int) - (j : Int)) ∧ ∃ m, w.drewN m = wr) (fun _ iv _ => (intOf iv).toNat)
  case atStart => exact ⟨0, by omega, by rw [h0], rfl, 0, rfl⟩
  case round =>
    obtain ⟨j, hj, rfl, rfl, m, rfl⟩ := hrel
    have hlt := HR.out j hj
    obtain ⟨x, hx⟩ : ∃ x, x = R j := ⟨_, rfl⟩
    rw [← hx] at hlt ⊢
    have HX := hid hx
    by_cases hl : j + 1 + b ≤ 19
    · have hl' : (b : Int) - 1 ≤ 17 - (j : Int) := by omega
      have t1 : (17 - (j : Int)).toNat = 17 - j := by omega
      have t2 : (17 - (j : Int) - (b : Int) + 1).toNat = 17 - j + 1 - b := by omega
      have hs := HS.out j
      rw [← hx] at hs
      have ao := andOne x (17 - j) hlt
      have hsh : poly * 2 ^ (17 - j + 1 - b) < 262144 := by
        have h1 : poly * 2 ^ (17 - j + 1 - b) < 2 ^ b * 2 ^ (17 - j + 1 - b) := Nat.mul_lt_mul_of_pos_right HP.out (Nat.two_pow_pos _)
        rw [← Nat.pow_add] at h1
        exact Nat.lt_of_lt_of_le h1 (show 2 ^ (b + (17 - j + 1 - b)) ≤ 2 ^ 18 from Nat.pow_le_pow_right (by decide) (by omega))
      have xs := xorShift x poly (17 - j + 1 - b) hlt hsh
      clear hx hsh
      by_cases hbit : x / 2 ^ (17 - j) % 2 = 1
      · rw [if_pos hbit] at hs
        rw [hbit] at ao
        have HSS := hid hs
        clear hs hbit
        go_wp2_with fail
        go_roundw
        case rel => exact ⟨j + 1, by omega, by rw [HSS.out], by go_num, m, rfl⟩
        case measure => simp [intOf]; omega
      · rw [if_neg hbit] at hs
        rw [show x / 2 ^ (17 - j) % 2 = 0 by omega] at ao
        have HSS := hid hs
        clear hs hbit xs
        go_wp2_with fail
        go_roundw
        case rel => exact ⟨j + 1, by omega, by rw [HSS.out], by go_num, m, rfl⟩
        case measure => simp [intOf]; omega
    · obtain rfl : j = 19 - b := by omega
      have hl' : ¬ (b : Int) - 1 ≤ 17 - ((19 - b : Nat) : Int) := by omega
      rw [hx]
      go_wp2_with fail
      go_ret
      exact ⟨rfl, m, rfl⟩
theorem fmt_all : ((List.range 32).all fun k => ((k * 1024 ||| rst 1335 11 (k * 1024) 8) ^^^ 21522 == fb k) && decide (rst 1335 11 (k * 1024) 8 < 262144)) = true := by decide +kernel
set_option maxRecDepth 20000 in
theorem fmtQ (l m : Nat) (hl : l < 4) (hm : m < 8) (w : World) : Calls Try.prog 59 #[.int .i64 l, .int .i64 m] w fun e w' => e = .returned (.int .i64 (fb (8 * l + m))) ∧ ∃ k, w.drewN k = w' := by
  have h := List.all_eq_true.1 fmt_all (8 * l + m) (List.mem_range.2 (by omega))
  simp only [Bool.and_eq_true, beq_iff_eq, decide_eq_true_eq] at h
  obtain ⟨h1, h2⟩ := h
  have RQ := fun W => restQ ((8 * l + m) * 1024) 1335 11 (by decide) (by decide) (by decide) (by omega) W
  have h8 : (8 * l ||| m) = 8 * l + m := by
    have := or_low l m 3 (by omega)
    rw [show 8 * l = l * 2 ^ 3 by omega]; exact this
  have o1 : bits .or .i64 ((l : Int) * 8) (m : Int) = ((8 * l + m : Nat) : Int) := by
    rw [← h8, ← i64_or (8 * l) m (by omega) (by omega)]; congr 1; omega
  obtain ⟨k, hk⟩ : ∃ k, k = 8 * l + m := ⟨_, rfl⟩
  have hk32 : k < 32 := by omega
  rw [← hk] at h1 h2 RQ o1 ⊢
  rw [show 19 - 11 = 8 from rfl] at RQ
  generalize rst 1335 11 (k * 1024) 8 = r at *
  have o2 : bits .or .i64 ((k : Int) * 1024) (r : Int) = ((k * 1024 ||| r : Nat) : Int) := by
    rw [← i64_or (k * 1024) r (by omega) (by omega)]; congr 1
  have hor : k * 1024 ||| r < 2 ^ 18 := Nat.or_lt_two_pow (by omega) (by omega)
  have o3 : bits .xor .i64 ((k * 1024 ||| r : Nat) : Int) 21522 = ((fb k : Nat) : Int) := by
    rw [← h1]; exact i64_xor _ 21522 (by omega) (by omega)
  generalize fb k = f at *
  generalize k * 1024 ||| r = q at *
  have hkc : ((k : Int) * 1024) = ((k * 1024 : Nat) : Int) := by omega
  simp only [← hkc] at RQ
  clear h1 h8 hk hkc
  go_enter Try.func59, Try.ntmps59
  go_wp2_with fail
  refine (RQ _).mono ?_
  rintro e w1 ⟨rfl, n, rfl⟩
  go_wp2_with fail
  go_ret
  exact ⟨rfl, n, rfl⟩
theorem ver_all : ((List.range 41).all fun v => decide (v < 7) || ((v * 4096 ||| rst 7973 13 (v * 4096) 6) == vtab.getD (v - 7) 0) && decide (rst 7973 13 (v * 4096) 6 < 262144)) = true := by decide +kernel
set_option maxRecDepth 20000 in
theorem vbitsQ (v : Nat) (h7 : 7 ≤ v) (h40 : v ≤ 40) (w : World) : Calls Try.prog 110 #[.int .i64 v] w fun e w' => e = .returned (.int .i64 (vtab.getD (v - 7) 0 : Nat)) ∧ ∃ k, w.drewN k = w' := by
  have h := List.all_eq_true.1 ver_all v (List.mem_range.2 (by omega))
  simp only [Bool.or_eq_true, Bool.and_eq_true, beq_iff_eq, decide_eq_true_eq, show ¬ v < 7 by omega, false_or] at h
  obtain ⟨h1, h2⟩ := h
  have RQ := fun W => restQ (v * 4096) 7973 13 (by decide) (by decide) (by decide) (by omega) W
  rw [show 19 - 13 = 6 from rfl] at RQ
  generalize rst 7973 13 (v * 4096) 6 = r at *
  have o2 : bits .or .i64 ((v : Int) * 4096) (r : Int) = ((v * 4096 ||| r : Nat) : Int) := by
    rw [← i64_or (v * 4096) r (by omega) (by omega)]; congr 1
  rw [h1] at o2
  generalize vtab.getD (v - 7) 0 = f at *
  have hkc : ((v : Int) * 4096) = ((v * 4096 : Nat) : Int) := by omega
  simp only [← hkc] at RQ
  clear h1 hkc
  go_enter Try.func110, Try.ntmps110
  go_wp2_with fail
  refine (RQ _).mono ?_
  rintro e w1 ⟨rfl, n, rfl⟩
  go_wp2_with fail
  go_ret
  exact ⟨rfl, n, rfl⟩
set_option maxRecDepth 20000 in
set_option maxHeartbeats 4000000 in
theorem maskQ (m x y : Nat) (hm : m < 8) (hx : x ≤ 1000) (hy : y ≤ 1000) (w : World) : Calls Try.prog 36 #[.int .i64 m, .int .i64 x, .int .i64 y] w fun e w' => (∃ b, e = .returned (.bool b)) ∧ w = w' := by
  have p0 : (0 : Int) ≤ (x : Int) * (y : Int) := by rw [← Int.natCast_mul]; omega
  have p1 : (x : Int) * (y : Int) ≤ 1000000 := by rw [← Int.natCast_mul]; have : x * y ≤ 1000 * 1000 := Nat.mul_le_mul hx hy; omega
  rcases (show m = 0 ∨ m = 1 ∨ m = 2 ∨ m = 3 ∨ m = 4 ∨ m = 5 ∨ m = 6 ∨ m = 7 by omega) with rfl | rfl | rfl | rfl | rfl | rfl | rfl | rfl
  all_goals (
    go_enter Try.func36, Try.ntmps36
    go_wp2_with fail
    go_ret
    exact ⟨⟨_, rfl⟩, rfl⟩)
end Go.Proofs.Ytpffffhgmhpkiaa
