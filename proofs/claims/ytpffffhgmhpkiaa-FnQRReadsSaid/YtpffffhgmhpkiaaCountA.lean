/- bits.OnesCount64, OnesCount, FormatInformation_NumBitsDiffering. -/
import Derived.Test.YtpffffhgmhpkiaaPopL
import Derived.Deep.DrawnRows
namespace Go.Proofs.Ytpffffhgmhpkiaa
open Go.RowKit
set_option linter.unusedVariables false
theorem u64_and (a b : Nat) (ha : a < 18446744073709551616) (hb : b < 18446744073709551616) : bits .and .u64 (a : Int) (b : Int) = ((a &&& b : Nat) : Int) := by
  have hx : a &&& b < 2 ^ 64 := Nat.and_lt_two_pow _ (by omega)
  show IntKind.u64.wrap ((BitVec.ofInt 64 (a : Int) &&& BitVec.ofInt 64 (b : Int)).toNat : Int) = _
  rw [BitVec.toNat_and, ofInt_u64 a (by omega), ofInt_u64 b (by omega)]
  simp [IntKind.wrap, IntKind.bits, IntKind.signed]
  omega
theorem u64_xor (a b : Nat) (ha : a < 18446744073709551616) (hb : b < 18446744073709551616) : bits .xor .u64 (a : Int) (b : Int) = ((a ^^^ b : Nat) : Int) := by
  have hx : a ^^^ b < 2 ^ 64 := Nat.xor_lt_two_pow (by omega) (by omega)
  show IntKind.u64.wrap ((BitVec.ofInt 64 (a : Int) ^^^ BitVec.ofInt 64 (b : Int)).toNat : Int) = _
  rw [BitVec.toNat_xor, ofInt_u64 a (by omega), ofInt_u64 b (by omega)]
  simp [IntKind.wrap, IntKind.bits, IntKind.signed]
  omega
/-- The steps by which the library counts. -/
def sw1 (x : Nat) : Nat := (x / 2 &&& 6148914691236517205) + (x &&& 6148914691236517205)
def sw2 (x : Nat) : Nat := (x / 4 &&& 3689348814741910323) + (x &&& 3689348814741910323)
def sw3 (x : Nat) : Nat := (x / 16 + x) &&& 1085102592571150095
def sw (x : Nat) : Nat :=
  let x3 := sw3 (sw2 (sw1 x))
  let x4 := x3 + x3 / 256
  let x5 := x4 + x4 / 65536
  (x5 + x5 / 4294967296) &&& 127
def swOk (x : Nat) : Bool := Nat.beq (sw x) (pops 18 x) && Nat.ble (sw1 x) 1000000 && Nat.ble (sw2 (sw1 x)) 1000000
def swAll : Nat → Nat → Bool
  | 0, _ => true
  | n + 1, b => swOk b && swAll n (b + 1)
theorem swAll_at : ∀ n b x, swAll n b = true → b ≤ x → x < b + n → swOk x = true
  | 0, b, x, _, h1, h2 => by omega
  | n + 1, b, x, h, h1, h2 => by
    rw [swAll, Bool.and_eq_true] at h
    rcases Nat.eq_or_lt_of_le h1 with e | e
    · rw [← e]; exact h.1
    · exact swAll_at n (b + 1) x h.2 (by omega) (by omega)
def swBlocks : Nat → Nat → Bool
  | 0, _ => true
  | n + 1, b => swAll 1024 b && swBlocks n (b + 1024)
theorem swBlocks_at : ∀ n b x, swBlocks n b = true → b ≤ x → x < b + n * 1024 → swOk x = true
  | 0, b, x, _, h1, h2 => by omega
  | n + 1, b, x, h, h1, h2 => by
    rw [swBlocks, Bool.and_eq_true] at h
    rcases Nat.lt_or_ge x (b + 1024) with e | e
    · exact swAll_at 1024 b x h.1 h1 e
    · exact swBlocks_at n (b + 1024) x h.2 e (by omega)
end Go.Proofs.Ytpffffhgmhpkiaa
