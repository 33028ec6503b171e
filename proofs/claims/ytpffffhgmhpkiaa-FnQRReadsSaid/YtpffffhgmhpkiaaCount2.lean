/- Bits that are set, counted: block 1 of numbers. -/
import Derived.Test.YtpffffhgmhpkiaaCountA
namespace Go.Proofs.Ytpffffhgmhpkiaa
theorem sw_1 : swBlocks 32 32768 = true := by decide +kernel
end Go.Proofs.Ytpffffhgmhpkiaa
