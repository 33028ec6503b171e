/- Bits that are set, counted: block 2 of numbers. -/
import Derived.Test.YtpffffhgmhpkiaaCountA
namespace Go.Proofs.Ytpffffhgmhpkiaa
theorem sw_2 : swBlocks 32 65536 = true := by decide +kernel
end Go.Proofs.Ytpffffhgmhpkiaa
