/- Bits that are set, counted: block 5 of numbers. -/
import Derived.Test.YtpffffhgmhpkiaaCountA
namespace Go.Proofs.Ytpffffhgmhpkiaa
theorem sw_5 : swBlocks 32 163840 = true := by decide +kernel
end Go.Proofs.Ytpffffhgmhpkiaa
