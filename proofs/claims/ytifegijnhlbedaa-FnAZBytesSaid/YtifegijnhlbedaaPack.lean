/- Bits as numbers and as bytes: plain facts, no program. -/
import Derived.Laws.BitsAllLaws
namespace Go.Proofs.Ytifegijnhlbedaa

/-- The number that the bits from s on say, so many, the first one the highest; behind the last one there are zeros. -/
def bitsVal (l : List Bool) (s : Nat) : Nat → Nat
  | 0 => 0
  | k + 1 => 2 * bitsVal l s k + (l.getD (s + k) false).toNat

theorem bitsVal_lt (l : List Bool) (s k : Nat) : bitsVal l s k < 2 ^ k := by
  induction k with
  | zero => simp [bitsVal]
  | succ k ih => simp only [bitsVal, Nat.pow_succ]; have := (l.getD (s + k) false).toNat_le; omega

theorem bitsVal_lt8 (l : List Bool) (s : Nat) : bitsVal l s 8 < 256 := bitsVal_lt l s 8

/-- Behind the end there are zeros. -/
theorem bitsVal_past (l : List Bool) (s k m : Nat) (h : l.length ≤ s + k) : bitsVal l s (k + m) = bitsVal l s k * 2 ^ m := by
  induction m with
  | zero => simp
  | succ m ih =>
    have e : l.getD (s + (k + m)) false = false := by rw [List.getD, List.getElem?_eq_none (by omega)]; rfl
    rw [show k + (m + 1) = (k + m) + 1 from by omega]
    simp only [bitsVal, ih, e, Nat.pow_succ]
    simp [Nat.mul_comm 2, Nat.mul_assoc]

theorem getD_take (l : List Bool) (i k : Nat) : (l.take i).getD k false = if k < i then l.getD k false else false := by
  simp only [List.getD, List.getElem?_take]
  split <;> rfl

/-- What one bit more turns in its byte. -/
theorem bitsVal_step (l : List Bool) (i : Nat) :
    bitsVal (l.take (i + 1)) (8 * (i / 8)) 8 = bitsVal (l.take i) (8 * (i / 8)) 8 + (l.getD i false).toNat * 2 ^ (7 - i % 8) ∧
    bitsVal (l.take i) (8 * (i / 8)) 8 % 2 ^ (8 - i % 8) = 0 := by
  obtain ⟨j, m, hm, rfl⟩ : ∃ j m, m < 8 ∧ i = 8 * j + m := ⟨i / 8, i % 8, by omega, by omega⟩
  have e1 : (8 * j + m) / 8 = j := by omega
  have e2 : (8 * j + m) % 8 = m := by omega
  rw [e1, e2]
  have key : ∀ m' k, (l.take (8 * j + m')).getD (8 * j + k) false = if k < m' then l.getD (8 * j + k) false else false := by
    intro m' k
    rw [getD_take]
    by_cases h : k < m'
    · rw [if_pos (by omega), if_pos h]
    · rw [if_neg (by omega), if_neg h]
  rw [Nat.add_assoc (8 * j) m 1]
  simp only [bitsVal, key]
  rcases (by omega : m = 0 ∨ m = 1 ∨ m = 2 ∨ m = 3 ∨ m = 4 ∨ m = 5 ∨ m = 6 ∨ m = 7) with rfl | rfl | rfl | rfl | rfl | rfl | rfl | rfl
  all_goals
    generalize l.getD (8 * j + 0) false = b0
    generalize l.getD (8 * j + 1) false = b1
    generalize l.getD (8 * j + 2) false = b2
    generalize l.getD (8 * j + 3) false = b3
    generalize l.getD (8 * j + 4) false = b4
    generalize l.getD (8 * j + 5) false = b5
    generalize l.getD (8 * j + 6) false = b6
    generalize l.getD (8 * j + 7) false = b7
    simp
    try omega

theorem bitsVal_other (l : List Bool) (i j : Nat) (h : j ≠ i / 8) : bitsVal (l.take (i + 1)) (8 * j) 8 = bitsVal (l.take i) (8 * j) 8 := by
  have key : ∀ k, k < 8 → (l.take (i + 1)).getD (8 * j + k) false = (l.take i).getD (8 * j + k) false := by
    intro k hk
    rw [getD_take, getD_take]
    by_cases h1 : 8 * j + k < i
    · rw [if_pos (by omega), if_pos h1]
    · rw [if_neg (by omega), if_neg h1]
  simp only [bitsVal]
  rw [key 0 (by omega), key 1 (by omega), key 2 (by omega), key 3 (by omega), key 4 (by omega), key 5 (by omega), key 6 (by omega), key 7 (by omega)]

/-- The bits as bytes, filled with zeros. -/
def packed (l : List Bool) : List Nat := (List.range ((l.length + 7) / 8)).map fun j => bitsVal l (8 * j) 8

/-- The bytes of so many, of which the first i bits are laid. -/
def packedTo (l : List Bool) (i : Nat) : List Nat := (List.range ((l.length + 7) / 8)).map fun j => bitsVal (l.take i) (8 * j) 8

theorem packedTo_all (l : List Bool) : packedTo l l.length = packed l := by simp [packedTo, packed]
theorem packedTo_zero (l : List Bool) : packedTo l 0 = List.replicate ((l.length + 7) / 8) 0 := by
  apply List.ext_getElem
  · simp [packedTo]
  · intro k h1 h2
    simp [packedTo, bitsVal]
theorem packedTo_length (l : List Bool) (i : Nat) : (packedTo l i).length = (l.length + 7) / 8 := by simp [packedTo]
theorem packedTo_getD (l : List Bool) (i j : Nat) (h : j < (l.length + 7) / 8) : (packedTo l i)[j]? = some (bitsVal (l.take i) (8 * j) 8) := by
  simp [packedTo, h]
theorem or_add (m x : Nat) (hm : m < 8) (hx : x % 2 ^ (8 - m) = 0) : x ||| 2 ^ (7 - m) = x + 2 ^ (7 - m) :=
  nat_join (8 - m) x _ hx (Nat.pow_lt_pow_right (by omega) (by omega))
theorem packedTo_step (l : List Bool) (i : Nat) (hb : l.getD i false = true) :
    (packedTo l i).set (i / 8) (bitsVal (l.take i) (8 * (i / 8)) 8 ||| 2 ^ (7 - i % 8)) = packedTo l (i + 1) := by
  obtain ⟨h1, h2⟩ := bitsVal_step l i
  rw [or_add (i % 8) _ (by omega) h2]
  rw [hb] at h1
  simp only [Bool.toNat_true, Nat.one_mul] at h1
  rw [← h1]
  apply List.ext_getElem
  · simp [packedTo]
  · intro k h3 h4
    rw [List.getElem_set]
    split
    · rename_i h; subst h; simp [packedTo]
    · rename_i h
      simp only [packedTo, List.getElem_map, List.getElem_range]
      exact (bitsVal_other l i k (fun e => h e.symm)).symm
theorem packedTo_skip (l : List Bool) (i : Nat) (hb : l.getD i false = false) : packedTo l (i + 1) = packedTo l i := by
  unfold packedTo
  apply List.map_congr_left
  intro k _
  by_cases h : k = i / 8
  · subst h
    have := (bitsVal_step l i).1
    rw [hb] at this
    simpa using this
  · exact bitsVal_other l i k h
theorem packedTo_lt (l : List Bool) (i : Nat) : ∀ x ∈ packedTo l i, x < 256 := by
  intro x hx
  obtain ⟨j, _, rfl⟩ := List.mem_map.1 hx
  exact bitsVal_lt8 _ _
end Go.Proofs.Ytifegijnhlbedaa
