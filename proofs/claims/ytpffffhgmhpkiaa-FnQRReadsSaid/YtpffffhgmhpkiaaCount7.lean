/- Bits that are set, counted: block 6 of numbers. -/
import Derived.Test.YtpffffhgmhpkiaaCountA
namespace Go.Proofs.Ytpffffhgmhpkiaa
theorem sw_6 : swBlocks 32 196608 = true := by decide +kernel
end Go.Proofs.Ytpffffhgmhpkiaa
