/- Bits that are set, counted: block 0 of numbers. -/
import Derived.Test.YtpffffhgmhpkiaaCountA
namespace Go.Proofs.Ytpffffhgmhpkiaa
theorem sw_0 : swBlocks 32 0 = true := by decide +kernel
end Go.Proofs.Ytpffffhgmhpkiaa
