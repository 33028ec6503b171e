/- Bits that are set, counted: block 4 of numbers. -/
import Derived.Test.YtjgckbccbambmaaCountA
namespace Go.Proofs.Ytjgckbccbambmaa
theorem sw_4 : swBlocks 32 131072 = true := by decide +kernel
end Go.Proofs.Ytjgckbccbambmaa
