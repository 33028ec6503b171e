/- Bits that are set, counted: block 1 of numbers. -/
import Derived.Test.YtjgckbccbambmaaCountA
namespace Go.Proofs.Ytjgckbccbambmaa
theorem sw_1 : swBlocks 32 32768 = true := by decide +kernel
end Go.Proofs.Ytjgckbccbambmaa
