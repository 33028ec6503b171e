/- Bits that are set, counted: block 3 of numbers. -/
import Derived.Test.YtpffffhgmhpkiaaCountA
namespace Go.Proofs.Ytpffffhgmhpkiaa
theorem sw_3 : swBlocks 32 98304 = true := by decide +kernel
end Go.Proofs.Ytpffffhgmhpkiaa
