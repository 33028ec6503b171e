/- bits.OnesCount64, OnesCount, FormatInformation_NumBitsDiffering: the walks. -/
import Derived.Test.YtpffffhgmhpkiaaCount
import Derived.Test.YtpffffhgmhpkiaaProg
namespace Go.Proofs.Ytpffffhgmhpkiaa
open Go.RowKit
set_option linter.unusedVariables false
set_option maxRecDepth 20000 in
set_option maxHeartbeats 4000000 in
theorem ones64 (x : Nat) (hx : x < 262144) (w : World) : Calls Try.prog 157 #[.int .u64 x] w fun e w' => e = .returned (.int .i64 (pops 18 x)) ∧ w = w' := by
  have hok := sw_ok x hx
  unfold swOk at hok
  rw [Bool.and_eq_true, Bool.and_eq_true] at hok
  obtain ⟨⟨h1, h2⟩, h3⟩ := hok
  have h1 := Nat.eq_of_beq_eq_true h1
  have h2 := Nat.le_of_ble_eq_true h2
  have h3 := Nat.le_of_ble_eq_true h3
  rw [← h1]
  clear h1
  unfold sw
  have a1 : bits .and .u64 ((x : Int) / 2) 6148914691236517205 = ((x / 2 &&& 6148914691236517205 : Nat) : Int) := u64_and (x / 2) 6148914691236517205 (by omega) (by omega)
  have b1 : bits .and .u64 (x : Int) 6148914691236517205 = ((x &&& 6148914691236517205 : Nat) : Int) := u64_and x 6148914691236517205 (by omega) (by omega)
  have s1 : ((x / 2 &&& 6148914691236517205 : Nat) : Int) + ((x &&& 6148914691236517205 : Nat) : Int) = ((sw1 x : Nat) : Int) := by unfold sw1; omega
  have l1 : x / 2 &&& 6148914691236517205 ≤ x / 2 := Nat.and_le_left
  have l2 : x &&& 6148914691236517205 ≤ x := Nat.and_le_left
  generalize x / 2 &&& 6148914691236517205 = p1 at *
  generalize x &&& 6148914691236517205 = p2 at *
  generalize sw1 x = x1 at *
  have a2 : bits .and .u64 ((x1 : Int) / 4) 3689348814741910323 = ((x1 / 4 &&& 3689348814741910323 : Nat) : Int) := u64_and (x1 / 4) 3689348814741910323 (by omega) (by omega)
  have b2 : bits .and .u64 (x1 : Int) 3689348814741910323 = ((x1 &&& 3689348814741910323 : Nat) : Int) := u64_and x1 3689348814741910323 (by omega) (by omega)
  have s2 : ((x1 / 4 &&& 3689348814741910323 : Nat) : Int) + ((x1 &&& 3689348814741910323 : Nat) : Int) = ((sw2 x1 : Nat) : Int) := by unfold sw2; omega
  have l3 : x1 / 4 &&& 3689348814741910323 ≤ x1 / 4 := Nat.and_le_left
  have l4 : x1 &&& 3689348814741910323 ≤ x1 := Nat.and_le_left
  generalize x1 / 4 &&& 3689348814741910323 = p3 at *
  generalize x1 &&& 3689348814741910323 = p4 at *
  generalize sw2 x1 = x2 at *
  obtain ⟨t, ht⟩ : ∃ t, t = x2 / 16 + x2 := ⟨_, rfl⟩
  have s3 : (x2 : Int) / 16 + (x2 : Int) = (t : Int) := by omega
  have a3 : bits .and .u64 (t : Int) 1085102592571150095 = ((t &&& 1085102592571150095 : Nat) : Int) := u64_and t 1085102592571150095 (by omega) (by omega)
  have e3 : sw3 x2 = t &&& 1085102592571150095 := by unfold sw3; rw [ht]
  have l5 : t &&& 1085102592571150095 ≤ t := Nat.and_le_left
  rw [e3]
  clear e3
  generalize t &&& 1085102592571150095 = x3 at *
  obtain ⟨x4, h4⟩ : ∃ x4, x4 = x3 + x3 / 256 := ⟨_, rfl⟩
  have s4 : (x3 : Int) + (x3 : Int) / 256 = (x4 : Int) := by omega
  obtain ⟨x5, h5⟩ : ∃ x5, x5 = x4 + x4 / 65536 := ⟨_, rfl⟩
  have s5 : (x4 : Int) + (x4 : Int) / 65536 = (x5 : Int) := by omega
  obtain ⟨x6, h6⟩ : ∃ x6, x6 = x5 + x5 / 4294967296 := ⟨_, rfl⟩
  have s6 : (x5 : Int) + (x5 : Int) / 4294967296 = (x6 : Int) := by omega
  have a6 : bits .and .i64 (x6 : Int) 127 = ((x6 &&& 127 : Nat) : Int) := i64_and x6 127 (by omega) (by omega)
  simp only [← h4, ← h5, ← h6]
  have n1 : x1 ≤ 1000000 := by omega
  have n3 : t ≤ 2000000 := by omega
  have n4 : x3 ≤ 2000000 := by omega
  have n5 : x4 ≤ 3000000 := by omega
  have n6 : x5 ≤ 3000000 := by omega
  have n7 : x6 ≤ 3000000 := by omega
  clear h4 h5 h6 ht l1 l2 l3 l4 l5
  generalize x6 &&& 127 = r at *
  have q1 : p1 ≤ 1000000 := by omega
  have q2 : p2 ≤ 1000000 := by omega
  have q3 : p3 ≤ 1000000 := by omega
  have q4 : p4 ≤ 1000000 := by omega
  go_enter Try.func157, Try.ntmps157
  go_wp2_with fail
  go_ret
  exact ⟨rfl, rfl⟩
end Go.Proofs.Ytpffffhgmhpkiaa
