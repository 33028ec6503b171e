/- Bits that are set, counted: block 7 of numbers. -/
import Derived.Test.YtpffffhgmhpkiaaCountA
namespace Go.Proofs.Ytpffffhgmhpkiaa
theorem sw_7 : swBlocks 32 229376 = true := by decide +kernel
end Go.Proofs.Ytpffffhgmhpkiaa
