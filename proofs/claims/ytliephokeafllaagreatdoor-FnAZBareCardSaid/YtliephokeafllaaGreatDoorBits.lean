/- Bit operations on int, as the walk spells them, in natural numbers. -/
import Derived.WalkKit
import Derived.Laws.BitsAllLaws
import Derived.Laws.DeepBits32
namespace Go.Proofs.YtliephokeafllaaGreatDoor

theorem wrap_i64_small (n : Int) (h0 : 0 ≤ n) (h1 : n < 9223372036854775808) : IntKind.i64.wrap n = n := by
  simp [IntKind.wrap, IntKind.bits, IntKind.signed]
  omega
theorem i64_or (a b : Nat) (ha : a < 9223372036854775808) (hb : b < 9223372036854775808) : bits .or .i64 (a : Int) (b : Int) = ((a ||| b : Nat) : Int) := by
  have hx : a ||| b < 2 ^ 63 := Nat.or_lt_two_pow (by omega) (by omega)
  show IntKind.i64.wrap ((BitVec.ofInt 64 (a : Int) ||| BitVec.ofInt 64 (b : Int)).toNat : Int) = _
  rw [BitVec.toNat_or, ofInt_u64 a (by omega), ofInt_u64 b (by omega), wrap_i64_small _ (by omega) (by omega)]
theorem i64_and (a b : Nat) (ha : a < 9223372036854775808) (hb : b < 9223372036854775808) : bits .and .i64 (a : Int) (b : Int) = ((a &&& b : Nat) : Int) := by
  have hx : a &&& b < 2 ^ 63 := Nat.and_lt_two_pow _ (by omega)
  show IntKind.i64.wrap ((BitVec.ofInt 64 (a : Int) &&& BitVec.ofInt 64 (b : Int)).toNat : Int) = _
  rw [BitVec.toNat_and, ofInt_u64 a (by omega), ofInt_u64 b (by omega), wrap_i64_small _ (by omega) (by omega)]
theorem i64_xor (a b : Nat) (ha : a < 9223372036854775808) (hb : b < 9223372036854775808) : bits .xor .i64 (a : Int) (b : Int) = ((a ^^^ b : Nat) : Int) := by
  have hx : a ^^^ b < 2 ^ 63 := Nat.xor_lt_two_pow (by omega) (by omega)
  show IntKind.i64.wrap ((BitVec.ofInt 64 (a : Int) ^^^ BitVec.ofInt 64 (b : Int)).toNat : Int) = _
  rw [BitVec.toNat_xor, ofInt_u64 a (by omega), ofInt_u64 b (by omega), wrap_i64_small _ (by omega) (by omega)]
/-- A number that has just been doubled, with a one put behind it. -/
theorem i64_or_one (q : Nat) (h : q < 4611686018427387904) : bits .or .i64 ((q : Int) * 2) 1 = ((2 * q + 1 : Nat) : Int) := by
  have := i64_or (q * 2) 1 (by omega) (by omega)
  rw [or_bit (q * 2) 1 (by omega) (by omega)] at this
  rw [show ((q : Int) * 2) = ((q * 2 : Nat) : Int) from by omega]
  rw [show ((2 * q + 1 : Nat) : Int) = ((q * 2 + 1 : Nat) : Int) from by omega]
  exact this
end Go.Proofs.YtliephokeafllaaGreatDoor
