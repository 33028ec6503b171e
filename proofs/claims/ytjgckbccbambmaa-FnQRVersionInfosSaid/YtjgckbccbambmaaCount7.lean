/- Bits that are set, counted: block 6 of numbers. -/
import Derived.Test.YtjgckbccbambmaaCountA
namespace Go.Proofs.Ytjgckbccbambmaa
theorem sw_6 : swBlocks 32 196608 = true := by decide +kernel
end Go.Proofs.Ytjgckbccbambmaa
