/- correctBits: the bits that words say, filled in one by one. -/
import Derived.Test.YtliephokeafllaaGreatDoorAzW
namespace Go.Proofs.YtliephokeafllaaGreatDoor
open Go.RowKit
set_option linter.unusedVariables false

/-- The bits that are handed back, with the share of words. -/
def CorOut (B : List Bool) (pct : Nat) (w : World) (e : Ending) (w' : World) : Prop :=
  ∃ q A c, e = .returned (.tuple #[.pointer (some ⟨q, 0, none⟩), .nilIface]) ∧ Arr w' q 92 [.slice A B.length c, .int .i64 (pct : Nat)] ∧ B.length ≤ c ∧ Rd w' A B.length (B.map Value.bool) ∧ Below w.heap.size w w'
theorem lay_code (r w : Nat) (l : List Nat) (k : Nat) (hk : k < l.length) (hl : l.getD k 0 < 2 ^ w) : codeAt (layBits r w l) (r + w * k) w = l.getD k 0 := by
  have h1 : layBits r w l = layBits r w (l.take k) ++ putBits (l.getD k 0) w ++ ((l.drop (k + 1)).map fun x => putBits x w).flatten := by
    rw [← layBits_next r w l k hk]
    unfold layBits
    rw [List.append_assoc]
    congr 1
    conv => lhs; rw [← List.take_append_drop (k + 1) l]
    rw [List.map_append, List.flatten_append]
  have h2 : (layBits r w (l.take k)).length = r + w * k := by rw [layBits_len, List.length_take, Nat.min_eq_left (by omega)]
  have h4 : At (layBits r w l) (r + w * k) (putBits (l.getD k 0) w) := by
    rw [h1, ← h2]
    exact At.mid _ _ _
  have h3 := codeAt_at h4
  rw [h3, Nat.mod_eq_of_lt hl]
/-- How many words are stuffed. -/
def stC (w : Nat) (l : List Nat) : Nat := (l.filter fun x => decide (x = 1 ∨ x = 2 ^ w - 2)).length
theorem stC_next (w : Nat) (l : List Nat) (k : Nat) (hk : k < l.length) : stC w (l.take (k + 1)) = stC w (l.take k) + (if l.getD k 0 = 1 ∨ l.getD k 0 = 2 ^ w - 2 then 1 else 0) := by
  have h : l.take (k + 1) = l.take k ++ [l.getD k 0] := by
    rw [List.take_add_one, List.getElem?_eq_getElem hk, List.getD, List.getElem?_eq_getElem hk]; rfl
  unfold stC
  rw [h, List.filter_append, List.length_append]
  congr 1
  by_cases h2 : l.getD k 0 = 1 ∨ l.getD k 0 = 2 ^ w - 2
  · rw [if_pos h2, List.filter_cons_of_pos (by simpa using h2)]; rfl
  · rw [if_neg h2, List.filter_cons_of_neg (by simpa using h2)]; rfl
theorem stC_le (w : Nat) (l : List Nat) : stC w l ≤ l.length := List.length_filter_le _ _
theorem unst_len (w : Nat) (hw : 1 ≤ w) : ∀ l : List Nat, (unst w l).length + stC w l = w * l.length
  | [] => by simp [unst, stC]
  | x :: l => by
    have ih := unst_len w hw l
    have h1 : (unst w (x :: l)).length = (unstW w x).length + (unst w l).length := by simp [unst]
    have h2 : stC w (x :: l) = (if x = 1 ∨ x = 2 ^ w - 2 then 1 else 0) + stC w l := by
      unfold stC
      by_cases h2 : x = 1 ∨ x = 2 ^ w - 2
      · rw [if_pos h2, List.filter_cons_of_pos (by simpa using h2), List.length_cons]; omega
      · rw [if_neg h2, List.filter_cons_of_neg (by simpa using h2)]; omega
    rw [h1, h2, List.length_cons, Nat.mul_add]
    unfold unstW
    by_cases h3 : x = 1 ∨ x = 2 ^ w - 2
    · rw [if_pos h3, if_pos h3, List.length_replicate]; omega
    · rw [if_neg h3, if_neg h3, putBits_len]; omega
/-- Bits of which the first t are laid. -/
def fillB (U : List Bool) (t : Nat) : List Value := (U.take t).map Value.bool ++ List.replicate (U.length - t) (.bool false)
theorem fillB_len (U : List Bool) (t : Nat) (h : t ≤ U.length) : (fillB U t).length = U.length := by
  unfold fillB
  rw [List.length_append, List.length_map, List.length_take, List.length_replicate]; omega
theorem fillB_zero (U : List Bool) : List.replicate U.length (Value.bool false) = fillB U 0 := by simp [fillB]
theorem fillB_all (U : List Bool) : fillB U U.length = U.map Value.bool := by simp [fillB]
theorem fillB_set (U : List Bool) (t : Nat) (h : t < U.length) : (fillB U t).set t (.bool (U.getD t false)) = fillB U (t + 1) := by
  have h1 : U.take (t + 1) = U.take t ++ [U.getD t false] := by
    rw [List.take_add_one, List.getElem?_eq_getElem h, List.getD, List.getElem?_eq_getElem h]; rfl
  have h2 : ((U.take t).map Value.bool).length = t := by rw [List.length_map, List.length_take]; omega
  unfold fillB
  rw [List.set_append_right _ _ (by omega), h2, Nat.sub_self, show U.length - t = (U.length - (t + 1)) + 1 from by omega, List.replicate_succ, List.set_cons_zero, h1, List.map_append, List.append_assoc]
  rfl
theorem unst_at (w : Nat) (l : List Nat) (i : Nat) (hi : i < l.length) : At (unst w l) (unst w (l.take i)).length (unstW w (l.getD i 0)) ∧ (unst w (l.take (i + 1))).length = (unst w (l.take i)).length + (unstW w (l.getD i 0)).length := by
  have h : l.take (i + 1) = l.take i ++ [l.getD i 0] := by
    rw [List.take_add_one, List.getElem?_eq_getElem hi, List.getD, List.getElem?_eq_getElem hi]; rfl
  constructor
  · have e : unst w l = unst w (l.take i) ++ unstW w (l.getD i 0) ++ ((l.drop (i + 1)).map (unstW w)).flatten := by
      conv => lhs; rw [← List.take_append_drop (i + 1) l]
      unfold unst
      rw [List.map_append, List.flatten_append, h, List.map_append, List.flatten_append]
      simp
    rw [e]
    exact At.mid _ _ _
  · rw [h, unst_app, List.length_append]
theorem nat_bit (x b : Nat) : x &&& 2 ^ b = x / 2 ^ b % 2 * 2 ^ b := by
  apply Nat.eq_of_testBit_eq
  intro i
  rw [Nat.testBit_and, Nat.testBit_mul_two_pow, show x / 2 ^ b % 2 = x / 2 ^ b % 2 ^ 1 from by simp, Nat.testBit_mod_two_pow, Nat.testBit_div_two_pow, Nat.testBit_two_pow]
  by_cases h : b = i
  · subst h; simp
  · by_cases h2 : b ≤ i
    · have h3 : ¬ i - b < 1 := by omega
      simp [h, h3]
    · simp [h, h2]
theorem i64_bit (x b : Nat) (hx : x < 4096) (hb : b < 12) : bits .and .i64 (x : Int) ((2 : Int) ^ b) = ((x / 2 ^ b % 2 * 2 ^ b : Nat) : Int) := by
  have h2 : 2 ^ b < 4096 := Nat.pow_lt_pow_right (a := 2) (by omega) hb
  have := i64_and x (2 ^ b) (by omega) (by omega)
  rw [nat_bit, Int.natCast_pow] at this
  exact this
end Go.Proofs.YtliephokeafllaaGreatDoor
