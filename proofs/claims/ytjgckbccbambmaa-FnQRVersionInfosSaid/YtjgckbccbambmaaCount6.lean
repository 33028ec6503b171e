/- Bits that are set, counted: block 5 of numbers. -/
import Derived.Test.YtjgckbccbambmaaCountA
namespace Go.Proofs.Ytjgckbccbambmaa
theorem sw_5 : swBlocks 32 163840 = true := by decide +kernel
end Go.Proofs.Ytjgckbccbambmaa
