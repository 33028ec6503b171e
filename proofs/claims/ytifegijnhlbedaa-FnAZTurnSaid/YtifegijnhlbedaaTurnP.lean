/- FnAZTurn's plain law: the bits that differ are the marks that are wrong. -/
import Derived.Test.YtifegijnhlbedaaTurnS
namespace Go.Proofs.Ytifegijnhlbedaa
set_option linter.unusedVariables false

/-- The first side for which at most two marks are wrong. -/
def upFrom (L : Nat) (S : List Nat) : Nat → Nat → Option Nat
  | 0, _ => none
  | f + 1, k => if wrongTo L S k 4 ≤ 2 then some k else upFrom L S f (k + 1)

/-- The same as wrongTo, by the corners' bits alone. -/
def tBit (T : List Nat) (u c : Nat) : Nat → Bool
  | 0 => T.getD ((u + c + 3) % 4) 0 % 2 == 1
  | 1 => T.getD ((u + c) % 4) 0 / 4 % 2 == 1
  | _ => T.getD ((u + c) % 4) 0 / 2 % 2 == 1
def tWrong (T : List Nat) (u c : Nat) : Nat := (tBit T u c 0 != mark c 0).toNat + (tBit T u c 1 != mark c 1).toNat + (tBit T u c 2 != mark c 2).toNat
def tAll (T : List Nat) (u : Nat) : Nat := tWrong T u 0 + tWrong T u 1 + tWrong T u 2 + tWrong T u 3
def tCorner (T : List Nat) : Nat := ((T.getD 0 0 * 8 + T.getD 1 0) * 8 + T.getD 2 0) * 8 + T.getD 3 0

def bits12 (v : Nat) : Nat := v % 2 + v / 2 % 2 + v / 4 % 2 + v / 8 % 2 + v / 16 % 2 + v / 32 % 2 + v / 64 % 2 + v / 128 % 2 + v / 256 % 2 + v / 512 % 2 + v / 1024 % 2 + v / 2048 % 2
def bits8 (v : Nat) : Nat := v % 2 + v / 2 % 2 + v / 4 % 2 + v / 8 % 2 + v / 16 % 2 + v / 32 % 2 + v / 64 % 2 + v / 128 % 2
theorem ones8 : ∀ v : Fin 256, Lib.onesCount v.val = bits8 v.val := by decide +kernel
theorem pop16_bits (v : Nat) (h : v < 4096) : pop16 v = bits12 v := by
  have h1 := ones8 ⟨v / 256, by omega⟩
  have h2 := ones8 ⟨v % 256, by omega⟩
  simp only at h1 h2
  unfold pop16
  rw [h1, h2]
  unfold bits8 bits12
  omega
def turnOk (a b c d : Nat) : Bool :=
  (List.range 4).all fun k => bits12 ((tCorner [a, b, c, d] % 2 * 2048 + tCorner [a, b, c, d] / 2) ^^^ expBits k) == tAll [a, b, c, d] k
def turnRow (a : Nat) : Bool := (List.range 8).all fun b => (List.range 8).all fun c => (List.range 8).all fun d => turnOk a b c d
theorem turn_0 : turnRow 0 = true := by decide +kernel
theorem turn_1 : turnRow 1 = true := by decide +kernel
theorem turn_2 : turnRow 2 = true := by decide +kernel
theorem turn_3 : turnRow 3 = true := by decide +kernel
theorem turn_4 : turnRow 4 = true := by decide +kernel
theorem turn_5 : turnRow 5 = true := by decide +kernel
theorem turn_6 : turnRow 6 = true := by decide +kernel
theorem turn_7 : turnRow 7 = true := by decide +kernel
theorem turn_all (a b c d k : Nat) (ha : a < 8) (hb : b < 8) (hc : c < 8) (hd : d < 8) (hk : k < 4) :
    pop16 ((tCorner [a, b, c, d] % 2 * 2048 + tCorner [a, b, c, d] / 2) ^^^ expBits k) = tAll [a, b, c, d] k := by
  have hrow : turnRow a = true := by
    rcases (by omega : a = 0 ∨ a = 1 ∨ a = 2 ∨ a = 3 ∨ a = 4 ∨ a = 5 ∨ a = 6 ∨ a = 7) with rfl | rfl | rfl | rfl | rfl | rfl | rfl | rfl
    · exact turn_0
    · exact turn_1
    · exact turn_2
    · exact turn_3
    · exact turn_4
    · exact turn_5
    · exact turn_6
    · exact turn_7
  simp only [turnRow, List.all_eq_true, List.mem_range] at hrow
  have h := hrow b hb c hc d hd
  simp only [turnOk, List.all_eq_true, List.mem_range, beq_iff_eq] at h
  rw [← h k hk]
  refine pop16_bits _ ?_
  have he := expBits_lt k
  have hC : tCorner [a, b, c, d] < 4096 := by simp only [tCorner, List.getD_cons_zero, List.getD_cons_succ]; omega
  exact Nat.xor_lt_two_pow (n := 12) (by omega) (by omega)

theorem sideT_bits {L s : Nat} (hL : L = 10 ∨ L = 14) (hs : s < 2 ^ L) : sideT L s % 2 = s % 2 ∧ sideT L s / 4 % 2 = s / 2 ^ (L - 1) % 2 ∧ sideT L s / 2 % 2 = s / 2 ^ (L - 2) % 2 := by
  rcases hL with rfl | rfl
  · simp [sideT] at hs ⊢
    have h1 : s / 512 = s / 256 / 2 := by omega
    have h2 : (s / 256 * 2 + s % 2) / 4 = s / 256 / 2 := by omega
    rw [h1, h2]
    omega
  · simp [sideT] at hs ⊢
    have h1 : s / 8192 = s / 4096 / 2 := by omega
    have h2 : (s / 4096 * 2 + s % 2) / 4 = s / 4096 / 2 := by omega
    rw [h1, h2]
    omega

theorem bitAt_eq {L : Nat} {S : List Nat} (hL : L = 10 ∨ L = 14) (hS : Sides L S) (u c k : Nat) : bitAt L S u c k = tBit (S.map (sideT L)) u c k := by
  have key : ∀ j, j < 4 → (S.map (sideT L)).getD j 0 = sideT L (S.getD j 0) := by
    intro j hj
    have := hS.1
    simp [List.getD, List.getElem?_eq_getElem (show j < S.length by omega)]
  have h1 := sideT_bits hL (hS.2 ((u + c + 3) % 4) (by omega))
  have h2 := sideT_bits hL (hS.2 ((u + c) % 4) (by omega))
  have cast : ∀ n : Nat, ((n : Int) == 1) = (n == 1) := by
    intro n
    rw [Bool.eq_iff_iff]; simp; omega
  rcases k with _ | _ | k
  · simp only [bitAt, tBit, key _ (show (u + c + 3) % 4 < 4 by omega), h1.1, cast]
  · simp only [bitAt, tBit, key _ (show (u + c) % 4 < 4 by omega), h2.2.1, cast]
  · simp only [bitAt, tBit, key _ (show (u + c) % 4 < 4 by omega), h2.2.2, cast]

theorem wrong_eq {L : Nat} {S : List Nat} (hL : L = 10 ∨ L = 14) (hS : Sides L S) (k : Nat) (hk : k < 4) : pop16 (cornerBits L S ^^^ expBits k) = wrongTo L S k 4 := by
  have hT : ∀ j, j < 4 → sideT L (S.getD j 0) < 8 := fun j hj => sideT_lt hS (by omega) j hj
  have e1 : wrongTo L S k 4 = tAll (S.map (sideT L)) k := by
    simp only [wrongTo, wrongIn, tAll, tWrong, bitAt_eq hL hS]
    omega
  have e2 : S.map (sideT L) = [sideT L (S.getD 0 0), sideT L (S.getD 1 0), sideT L (S.getD 2 0), sideT L (S.getD 3 0)] := by
    obtain ⟨hl, _⟩ := hS
    match S, hl with
    | [a, b, c, d], _ => rfl
  have h := turn_all _ _ _ _ k (hT 0 (by omega)) (hT 1 (by omega)) (hT 2 (by omega)) (hT 3 (by omega)) hk
  rw [e1, e2, ← h]
  have e3 : cornerTo L S 4 = tCorner [sideT L (S.getD 0 0), sideT L (S.getD 1 0), sideT L (S.getD 2 0), sideT L (S.getD 3 0)] := by
    simp [cornerTo, tCorner]
  unfold cornerBits
  rw [e3]

theorem turn_eq {L : Nat} {S : List Nat} (hL : L = 10 ∨ L = 14) (hS : Sides L S) : ∀ f k, f + k ≤ 4 → rotFrom (cornerBits L S) f k = upFrom L S f k := by
  intro f
  induction f with
  | zero => intro k _; rfl
  | succ f ih =>
    intro k hk
    simp only [rotFrom, upFrom, wrong_eq hL hS k (by omega), ih (k + 1) (by omega)]
end Go.Proofs.Ytifegijnhlbedaa
