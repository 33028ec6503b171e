/- laws.qrApart: how many bits are others. -/
import Derived.Test.YtjgckbccbambmaaPopL
import Derived.Test.YtjgckbccbambmaaBits
import Derived.Deep.DrawnRows
namespace Go.Proofs.Ytjgckbccbambmaa
open Go.RowKit
set_option linter.unusedVariables false
theorem xor_lt18 {a b : Nat} (ha : a < 262144) (hb : b < 262144) : a ^^^ b < 262144 := Nat.xor_lt_two_pow (n := 18) ha hb
set_option maxRecDepth 20000 in
theorem apart (a b : Nat) (ha : a < 262144) (hb : b < 262144) (w : World) : Calls Try.prog 11 #[.int .i64 a, .int .i64 b] w fun e w' => e = .returned (.int .i64 (far a b)) ∧ ∃ m, w.drewN m = w' := by
  have hx := i64_xor a b (by omega) (by omega)
  have hlt := xor_lt18 ha hb
  unfold far
  generalize a ^^^ b = y at *
  obtain ⟨K, hK⟩ : ∃ K, K = 18 := ⟨_, rfl⟩
  rw [← hK]
  have PL := hid (fun x (h1 : 0 < x) (h2 : x < 262144) => pops_less K x h1 (by rw [hK]; exact h2))
  have P0 := hid (pops_zero K)
  have PLE := hid (pops_le K y)
  have HK := hid hK
  clear hK
  go_enter Try.func11, Try.ntmps11
  go_wp2_with fail
  go_loopw [5, 6] (fun nv xv wr => ∃ n x : Nat, n ≤ 18 ∧ x < 262144 ∧ n + pops K x = pops K y ∧ nv = .int .i64 n ∧ xv = .int .i64 x ∧ ∃ m, w.drewN m = wr) (fun _ xv _ => pops K (intOf xv).toNat)
  case atStart => exact ⟨0, y, by omega, hlt, by omega, rfl, rfl, 0, rfl⟩
  case round =>
    obtain ⟨n, x, hn, hxl, hs, rfl, rfl, m, rfl⟩ := hrel
    by_cases h0 : x = 0
    · subst h0
      rw [P0.out] at hs
      obtain rfl : n = pops K y := by omega

      go_wp2_with fail
      go_ret
      exact ⟨rfl, m, rfl⟩
    · have h0' : ¬ (x : Int) = 0 := by omega
      have hl := PL.out x (by omega) hxl
      have hp := PLE.out; have hk := HK.out
      have hle : x &&& (x - 1) ≤ x := Nat.and_le_left
      have ha2 : bits .and .i64 (x : Int) ((x : Int) - 1) = ((x &&& (x - 1) : Nat) : Int) := by
        rw [← i64_and x (x - 1) (by omega) (by omega), Int.natCast_sub (by omega)]; rfl
      generalize x &&& (x - 1) = x2 at *
      have HL := hid hl
      have HS := hid hs
      have hn3 : n < 18 := by omega
      clear hl hs hp hk
      go_wp2_with fail
      go_roundw
      case rel => exact ⟨n + 1, x2, by omega, by omega, by have := HL.out; have := HS.out; omega, by go_num, rfl, m, rfl⟩
      case measure => have := HL.out; simp [intOf]; omega
end Go.Proofs.Ytjgckbccbambmaa
