/- Bits that are set, counted: block 7 of numbers. -/
import Derived.Test.YtjgckbccbambmaaCountA
namespace Go.Proofs.Ytjgckbccbambmaa
theorem sw_7 : swBlocks 32 229376 = true := by decide +kernel
end Go.Proofs.Ytjgckbccbambmaa
