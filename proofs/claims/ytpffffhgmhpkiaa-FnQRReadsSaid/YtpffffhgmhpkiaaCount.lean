/- bits.OnesCount64: its steps count the bits of numbers below 2^18. -/
import Derived.Test.YtpffffhgmhpkiaaCount1
import Derived.Test.YtpffffhgmhpkiaaCount2
import Derived.Test.YtpffffhgmhpkiaaCount3
import Derived.Test.YtpffffhgmhpkiaaCount4
import Derived.Test.YtpffffhgmhpkiaaCount5
import Derived.Test.YtpffffhgmhpkiaaCount6
import Derived.Test.YtpffffhgmhpkiaaCount7
import Derived.Test.YtpffffhgmhpkiaaCount8
namespace Go.Proofs.Ytpffffhgmhpkiaa
theorem sw_ok (x : Nat) (h : x < 262144) : swOk x = true := by
  rcases (show x < 32768 ∨ (32768 ≤ x ∧ x < 65536) ∨ (65536 ≤ x ∧ x < 98304) ∨ (98304 ≤ x ∧ x < 131072) ∨ (131072 ≤ x ∧ x < 163840) ∨ (163840 ≤ x ∧ x < 196608) ∨ (196608 ≤ x ∧ x < 229376) ∨ (229376 ≤ x ∧ x < 262144) by omega) with h | h | h | h | h | h | h | h
  · exact swBlocks_at 32 0 x sw_0 (by omega) (by omega)
  · exact swBlocks_at 32 32768 x sw_1 (by omega) (by omega)
  · exact swBlocks_at 32 65536 x sw_2 (by omega) (by omega)
  · exact swBlocks_at 32 98304 x sw_3 (by omega) (by omega)
  · exact swBlocks_at 32 131072 x sw_4 (by omega) (by omega)
  · exact swBlocks_at 32 163840 x sw_5 (by omega) (by omega)
  · exact swBlocks_at 32 196608 x sw_6 (by omega) (by omega)
  · exact swBlocks_at 32 229376 x sw_7 (by omega) (by omega)
end Go.Proofs.Ytpffffhgmhpkiaa
