/- Bits that are set, counted: block 2 of numbers. -/
import Derived.Test.YtjgckbccbambmaaCountA
namespace Go.Proofs.Ytjgckbccbambmaa
theorem sw_2 : swBlocks 32 65536 = true := by decide +kernel
end Go.Proofs.Ytjgckbccbambmaa
