/- Bits that are set, counted: block 4 of numbers. -/
import Derived.Test.YtpffffhgmhpkiaaCountA
namespace Go.Proofs.Ytpffffhgmhpkiaa
theorem sw_4 : swBlocks 32 131072 = true := by decide +kernel
end Go.Proofs.Ytpffffhgmhpkiaa
