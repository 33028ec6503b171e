/- Bits read from bytes: the plain law. -/
import Derived.Test.YtpffffhgmhpkiaaBits
import Derived.Lib.BitFns
import Derived.RowKit
namespace Go.Proofs.Ytpffffhgmhpkiaa
open Go.RowKit
set_option linter.unusedVariables false

/-- The bit at a place, the highest of each byte first. -/
def bitOf (l : List Nat) (p : Nat) : Nat := l.getD (p / 8) 0 / 2 ^ (7 - p % 8) % 2
/-- The number that w bits from place p on are. -/
def rdn (l : List Nat) (p : Nat) : Nat → Nat
  | 0 => 0
  | w + 1 => 2 * rdn l p w + bitOf l (p + w)

theorem rdn_lt (l : List Nat) (p : Nat) : ∀ w, rdn l p w < 2 ^ w
  | 0 => by simp [rdn]
  | w + 1 => by
    have h := rdn_lt l p w
    have h2 : bitOf l (p + w) < 2 := Nat.mod_lt _ (by omega)
    simp only [rdn, Nat.pow_succ]
    omega
theorem rdn_add (l : List Nat) (p v : Nat) : ∀ w, rdn l p (v + w) = rdn l p v * 2 ^ w + rdn l (p + v) w
  | 0 => by simp [rdn]
  | w + 1 => by
    rw [← Nat.add_assoc]
    simp only [rdn, rdn_add l p v w, Nat.pow_succ, Nat.add_assoc]
    rw [← Nat.mul_assoc]
    omega
theorem rdn_in (l : List Nat) (p : Nat) : ∀ w, p % 8 + w ≤ 8 → rdn l p w = l.getD (p / 8) 0 / 2 ^ (8 - p % 8 - w) % 2 ^ w
  | 0, _ => by simp [rdn, Nat.mod_one]
  | w + 1, h => by
    have hi := rdn_in l p w (by omega)
    have e1 : (p + w) / 8 = p / 8 := by omega
    have e2 : 7 - (p + w) % 8 = 8 - p % 8 - (w + 1) := by omega
    simp only [rdn, hi, bitOf, e1, e2]
    rw [show 8 - p % 8 - w = (8 - p % 8 - (w + 1)) + 1 from by omega, Nat.pow_succ, ← Nat.div_div_eq_div_mul]
    generalize l.getD (p / 8) 0 / 2 ^ (8 - p % 8 - (w + 1)) = x
    rw [Nat.pow_succ, Nat.mul_comm (2 ^ w) 2, Nat.mod_mul]
    omega
/-- A mask and a shift take t bits from n on. -/
theorem mask_div (B t n : Nat) : (B &&& ((2 ^ t - 1) * 2 ^ n)) / 2 ^ n = B / 2 ^ n % 2 ^ t := by
  rw [← Nat.shiftRight_eq_div_pow, Nat.shiftRight_and_distrib, Nat.shiftRight_eq_div_pow, Nat.shiftRight_eq_div_pow, Nat.mul_div_cancel _ (Nat.two_pow_pos n), Nat.and_two_pow_sub_one_eq_mod]
theorem ones_div (t : Nat) (h : t ≤ 8) : 255 / 2 ^ (8 - t) = 2 ^ t - 1 := by
  have : t = 0 ∨ t = 1 ∨ t = 2 ∨ t = 3 ∨ t = 4 ∨ t = 5 ∨ t = 6 ∨ t = 7 ∨ t = 8 := by omega
  rcases this with rfl | rfl | rfl | rfl | rfl | rfl | rfl | rfl | rfl <;> rfl
theorem mask_lt (t n : Nat) (h : t + n ≤ 8) : (2 ^ t - 1) * 2 ^ n < 256 := by
  have : 2 ^ t * 2 ^ n ≤ 2 ^ 8 := by rw [← Nat.pow_add]; exact Nat.pow_le_pow_right (by omega) h
  have hp := Nat.two_pow_pos n
  have ht := Nat.two_pow_pos t
  rw [Nat.sub_mul, Nat.one_mul]
  omega
theorem or_low (r p n : Nat) (h : p < 2 ^ n) : r * 2 ^ n ||| p = r * 2 ^ n + p := by
  rw [Nat.mul_comm]
  exact (Nat.two_pow_add_eq_or_of_lt h r).symm
theorem u8_and (a b : Nat) (ha : a < 256) (hb : b < 256) : bits .and .u8 (a : Int) (b : Int) = ((a &&& b : Nat) : Int) := u8_and_nat a b ha hb
theorem maskInt (s m : Nat) (h : s + m ≤ 8) : ((255 : Int) / 2 ^ (8 - m) * 2 ^ (8 - s - m) % 256) = (((2 ^ m - 1) * 2 ^ (8 - s - m) : Nat) : Int) := by
  have h1 : ((255 : Int) / 2 ^ (8 - m)) = ((255 / 2 ^ (8 - m) : Nat) : Int) := by rw [Int.natCast_ediv, Int.natCast_pow]; rfl
  have h2 : ((2 : Int) ^ (8 - s - m)) = ((2 ^ (8 - s - m) : Nat) : Int) := by rw [Int.natCast_pow]; rfl
  rw [h1, h2, ones_div m (by omega), ← Int.natCast_mul]
  have := mask_lt m (8 - s - m) (by omega)
  omega
theorem lowAnd (B s m : Nat) (hB : B < 256) (h : s + m ≤ 8) : bits .and .u8 (B : Int) (255 / 2 ^ (8 - m) * 2 ^ (8 - s - m) % 256) / 2 ^ (8 - s - m) = ((B / 2 ^ (8 - s - m) % 2 ^ m : Nat) : Int) := by
  rw [maskInt s m h, u8_and B _ hB (mask_lt m _ (by omega)), ← mask_div, Int.natCast_ediv, Int.natCast_pow]
  rfl
theorem and_nn (B s m : Nat) (hB : B < 256) (h : s + m ≤ 8) : ∃ x : Nat, x < 256 ∧ bits .and .u8 (B : Int) (255 / 2 ^ (8 - m) * 2 ^ (8 - s - m) % 256) = (x : Int) := by
  rw [maskInt s m h, u8_and B _ hB (mask_lt m _ (by omega))]
  exact ⟨_, Nat.lt_of_le_of_lt Nat.and_le_left hB, rfl⟩
theorem lowVal (B s m : Nat) (hB : B < 256) (h : s + m ≤ 8) : wrap64 (bits .and .u8 (B : Int) (255 / 2 ^ (8 - m) * 2 ^ (8 - s - m) % 256)) / 2 ^ (8 - s - m) = ((B / 2 ^ (8 - s - m) % 2 ^ m : Nat) : Int) := by
  obtain ⟨x, hx, e⟩ := and_nn B s m hB h
  have e2 : wrap64 (bits .and .u8 (B : Int) (255 / 2 ^ (8 - m) * 2 ^ (8 - s - m) % 256)) = bits .and .u8 (B : Int) (255 / 2 ^ (8 - m) * 2 ^ (8 - s - m) % 256) := by
    rw [e]; unfold wrap64; omega
  rw [e2]
  exact lowAnd B s m hB h
theorem wrap64_nat (x : Nat) (h : x < 9223372036854775808) : wrap64 (x : Int) = (x : Int) := by unfold wrap64; omega
theorem byteOr (R B : Nat) (hR : R < 4294967296) (hB : B < 256) : bits .or .i64 ((R : Int) * 256) (wrap64 (bits .and .u8 (B : Int) 255)) = ((R * 256 + B : Nat) : Int) := by
  have h1 : bits .and .u8 (B : Int) 255 = ((B : Nat) : Int) := by
    have := u8_and B 255 hB (by omega)
    rw [show B &&& 255 = B % 2 ^ 8 from Nat.and_two_pow_sub_one_eq_mod B 8, Nat.mod_eq_of_lt (by omega)] at this
    exact this
  rw [h1, show ((R : Int) * 256) = ((R * 256 : Nat) : Int) from by omega, wrap64_nat _ (by omega), i64_or _ _ (by omega) (by omega)]
  have := or_low R B 8 (by omega)
  simp only [show (2 : Nat) ^ 8 = 256 from rfl] at this
  rw [this]
theorem rdn_byte (l : List Nat) (p j : Nat) (hp : (p + j) % 8 = 0) (hb : l.getD ((p + j) / 8) 0 < 256) : rdn l p (j + 8) = rdn l p j * 256 + l.getD ((p + j) / 8) 0 := by
  rw [rdn_add, rdn_in l (p + j) 8 (by omega), hp]
  generalize l.getD ((p + j) / 8) 0 = B at *
  simp only [show (2 : Nat) ^ 8 = 256 from rfl, show 8 - 0 - 8 = 0 from rfl, Nat.pow_zero, Nat.div_one]
  omega
theorem rdn_part (l : List Nat) (p j t : Nat) (hp : (p + j) % 8 = 0) (ht : t < 8) : rdn l p (j + t) = rdn l p j * 2 ^ t + l.getD ((p + j) / 8) 0 / 2 ^ (8 - t) % 2 ^ t := by
  rw [rdn_add, rdn_in l (p + j) t (by omega), hp, Nat.sub_zero]
theorem rdn_small (l : List Nat) (p j : Nat) (h : j ≤ 32) : rdn l p j < 4294967296 :=
  Nat.lt_of_lt_of_le (rdn_lt l p j) (show 2 ^ j ≤ 2 ^ 32 from Nat.pow_le_pow_right (by omega) h)
theorem partOr (R B t : Nat) (hR : R < 4294967296) (hB : B < 256) (ht : t < 8) :
    bits .or .i64 (wrap64 ((R : Int) * 2 ^ t)) (wrap64 (bits .and .u8 (B : Int) (255 / 2 ^ (8 - t) * 2 ^ (8 - t) % 256) / 2 ^ (8 - t))) = ((R * 2 ^ t + B / 2 ^ (8 - t) % 2 ^ t : Nat) : Int) := by
  have h1 := lowAnd B 0 t hB (by omega)
  rw [Nat.sub_zero] at h1
  have hx : B / 2 ^ (8 - t) % 2 ^ t < 2 ^ t := Nat.mod_lt _ (Nat.two_pow_pos t)
  have h2 : (2 : Nat) ^ t ≤ 2 ^ 7 := Nat.pow_le_pow_right (by omega) (by omega)
  have h3 : R * 2 ^ t ≤ R * 2 ^ 7 := Nat.mul_le_mul_left _ h2
  have h4 : ((R : Int) * 2 ^ t) = ((R * 2 ^ t : Nat) : Int) := by rw [Int.natCast_mul, Int.natCast_pow]; rfl
  rw [h1, h4, wrap64_nat _ (by omega), wrap64_nat _ (by omega), i64_or _ _ (by omega) (by omega), or_low R _ t hx]
theorem headVal (B s : Nat) (hB : B < 256) (hs : s ≤ 8) : wrap64 (bits .and .u8 (B : Int) (255 / 2 ^ (8 - (8 - s)) % 256)) = ((B / 2 ^ (8 - s - (8 - s)) % 2 ^ (8 - s) : Nat) : Int) := by
  have h := lowVal B s (8 - s) hB (by omega)
  rw [Nat.sub_self] at h ⊢
  simpa using h
end Go.Proofs.Ytpffffhgmhpkiaa
