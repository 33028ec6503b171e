/- Where the bits of an Aztec symbol's layers lie. Plain. -/
import Derived.Test.YtliephokeafllaaGreatDoorAzL
namespace Go.Proofs.YtliephokeafllaaGreatDoor

def azSide (c : Bool) (L : Nat) : Nat := if c then 11 + 4 * L else 14 + 4 * L
def azHalf (L : Nat) : Nat := 7 + 2 * L
def azWhole (c : Bool) (L : Nat) : Nat := if c then 11 + 4 * L else 14 + 4 * L + 1 + 2 * ((azHalf L - 1) / 15)
def azMid (L : Nat) : Nat := azHalf L + (azHalf L - 1) / 15
/-- Which module the u-th one without the grid is. -/
def azPl (c : Bool) (L u : Nat) : Nat :=
  if c then u else if u < azHalf L then azMid L - ((azHalf L - 1 - u) + (azHalf L - 1 - u) / 15) - 1 else azMid L + ((u - azHalf L) + (u - azHalf L) / 15) + 1
theorem azPl_lt {c : Bool} {L u : Nat} (hu : u < azSide c L) : azPl c L u < azWhole c L := by
  cases c
  · have hH : azHalf L = 7 + 2 * L := rfl
    simp only [azPl, azSide, azWhole, azMid, Bool.false_eq_true, if_false] at *
    generalize azHalf L = H at *
    by_cases h : u < H
    · rw [if_pos h]; omega
    · rw [if_neg h]; omega
  · simpa [azPl, azSide, azWhole] using hu
theorem azPl_mono {c : Bool} {L u v : Nat} (hv : v < azSide c L) (huv : u < v) : azPl c L u < azPl c L v := by
  cases c
  · have hH : azHalf L = 7 + 2 * L := rfl
    simp only [azPl, azSide, azMid, Bool.false_eq_true, if_false] at *
    generalize azHalf L = H at *
    by_cases h : u < H
    · rw [if_pos h]
      by_cases h2 : v < H
      · rw [if_pos h2]; omega
      · rw [if_neg h2]; omega
    · rw [if_neg h, if_neg (by omega)]; omega
  · simpa [azPl] using huv
theorem azPl_inj {c : Bool} {L u v : Nat} (hu : u < azSide c L) (hv : v < azSide c L) (e : azPl c L u = azPl c L v) : u = v := by
  rcases Nat.lt_trichotomy u v with h | h | h
  · have := azPl_mono hv h; omega
  · exact h
  · have := azPl_mono hu h; omega

/-- How long a side of layer i is. -/
def azLong (c : Bool) (L i : Nat) : Nat := if c then 4 * (L - i) + 9 else 4 * (L - i) + 12
theorem azLong_side {c : Bool} {L i : Nat} (hi : i < L) : azLong c L i + 4 * i + 2 = azSide c L := by
  cases c <;> simp [azLong, azSide] <;> omega
/-- Where layer i begins. -/
def azRow (c : Bool) (L : Nat) : Nat → Nat
  | 0 => 0
  | i + 1 => azRow c L i + 8 * azLong c L i
def azBitsN (c : Bool) (L : Nat) : Nat := if c then (88 + 16 * L) * L else (112 + 16 * L) * L
theorem azRow_eq (c : Bool) (L : Nat) : ∀ i, i ≤ L → azRow c L i + 16 * i * i = (if c then 88 else 112) * i + 32 * L * i := by
  intro i
  induction i with
  | zero => intro _; cases c <;> rfl
  | succ i ih =>
    intro hi
    have h1 := ih (by omega)
    have e1 : 16 * (i + 1) * (i + 1) = 16 * i * i + 32 * i + 16 := by
      simp only [Nat.mul_add, Nat.add_mul, Nat.mul_one]; omega
    have e2 : 32 * L * (i + 1) = 32 * L * i + 32 * L := by rw [Nat.mul_add, Nat.mul_one]
    rw [azRow, e1, e2]
    unfold azLong
    cases c
    · simp only [Bool.false_eq_true, if_false] at *; omega
    · simp only [if_true] at *; omega
theorem azRow_all (c : Bool) (L : Nat) : azRow c L L = azBitsN c L := by
  have := azRow_eq c L L (Nat.le_refl _)
  have e : 32 * L * L = 16 * L * L + 16 * L * L := by rw [← Nat.add_mul, ← Nat.add_mul]
  unfold azBitsN
  cases c
  · simp only [Bool.false_eq_true, if_false] at *; rw [Nat.add_mul]; omega
  · simp only [if_true] at *; rw [Nat.add_mul]; omega
theorem azRow_mono {c : Bool} {L i j : Nat} (h : i < j) : azRow c L i + 8 * azLong c L i ≤ azRow c L j := by
  induction j with
  | zero => omega
  | succ j ih =>
    rcases Nat.lt_or_ge i j with h1 | h1
    · have := ih h1; rw [azRow]; omega
    · obtain rfl : i = j := by omega
      exact Nat.le_refl _

/-- The place of bit n of two, of column j, of side k, of layer i. -/
def azIdx (c : Bool) (L i k j n : Nat) : Nat := azRow c L i + 2 * azLong c L i * k + 2 * j + n
def azU (c : Bool) (L i k j n : Nat) : Nat := match k with
  | 0 => 2 * i + n
  | 1 => 2 * i + j
  | 2 => azSide c L - 1 - 2 * i - n
  | _ => azSide c L - 1 - 2 * i - j
def azV (c : Bool) (L i k j n : Nat) : Nat := match k with
  | 0 => 2 * i + j
  | 1 => azSide c L - 1 - 2 * i - n
  | 2 => azSide c L - 1 - 2 * i - j
  | _ => 2 * i + n
structure AzIn (c : Bool) (L i k j n : Nat) : Prop where
  hi : i < L
  hk : k < 4
  hj : j < azLong c L i
  hn : n < 2
theorem four {k : Nat} (h : k < 4) : k = 0 ∨ k = 1 ∨ k = 2 ∨ k = 3 := by omega
theorem azU_lt {c : Bool} {L i k j n : Nat} (h : AzIn c L i k j n) : azU c L i k j n < azSide c L := by
  have h1 := azLong_side (c := c) h.hi
  have h2 := h.hj
  have h3 := h.hn
  rcases four h.hk with rfl | rfl | rfl | rfl <;> simp only [azU] <;> omega
theorem azV_lt {c : Bool} {L i k j n : Nat} (h : AzIn c L i k j n) : azV c L i k j n < azSide c L := by
  have h1 := azLong_side (c := c) h.hi
  have h2 := h.hj
  have h3 := h.hn
  rcases four h.hk with rfl | rfl | rfl | rfl <;> simp only [azV] <;> omega
theorem azUV_inj {c : Bool} {L i k j n i' k' j' n' : Nat} (h : AzIn c L i k j n) (h' : AzIn c L i' k' j' n') (e1 : azU c L i k j n = azU c L i' k' j' n') (e2 : azV c L i k j n = azV c L i' k' j' n') : i = i' ∧ k = k' ∧ j = j' ∧ n = n' := by
  have h1 := azLong_side (c := c) h.hi
  have h2 := h.hj
  have h3 := h.hn
  have h4 := azLong_side (c := c) h'.hi
  have h5 := h'.hj
  have h6 := h'.hn
  rcases four h.hk with rfl | rfl | rfl | rfl <;> rcases four h'.hk with rfl | rfl | rfl | rfl <;> simp only [azU, azV] at e1 e2 <;> omega
theorem azIdx_inj {c : Bool} {L i k j n i' k' j' n' : Nat} (h : AzIn c L i k j n) (h' : AzIn c L i' k' j' n') (e : azIdx c L i k j n = azIdx c L i' k' j' n') : i = i' ∧ k = k' ∧ j = j' ∧ n = n' := by
  have b1 := h.hj
  have b2 := h.hn
  have b3 := h'.hj
  have b4 := h'.hn
  unfold azIdx at e
  have up : ∀ {i k j n}, k < 4 → j < azLong c L i → n < 2 → azRow c L i + 2 * azLong c L i * k + 2 * j + n < azRow c L i + 8 * azLong c L i := by
    intro i k j n hk hj hn
    generalize azLong c L i = l at *
    rcases four hk with rfl | rfl | rfl | rfl <;> omega
  rcases Nat.lt_trichotomy i i' with hlt | rfl | hlt
  · have := azRow_mono (c := c) (L := L) hlt
    have := up h.hk b1 b2
    omega
  · generalize azLong c L i = l at *
    rcases four h.hk with rfl | rfl | rfl | rfl <;> rcases four h'.hk with rfl | rfl | rfl | rfl <;> omega
  · have := azRow_mono (c := c) (L := L) hlt
    have := up h'.hk b3 b4
    omega
theorem azIdx_lt {c : Bool} {L i k j n : Nat} (h : AzIn c L i k j n) : azIdx c L i k j n < azBitsN c L := by
  have h1 : azRow c L i + 8 * azLong c L i ≤ azBitsN c L := by
    rw [← azRow_all]
    exact azRow_mono h.hi
  have h2 := h.hj
  have h3 := h.hn
  unfold azIdx
  generalize azLong c L i = l at *
  rcases four h.hk with rfl | rfl | rfl | rfl <;> omega
theorem azIdx_onto {c : Bool} {L t : Nat} (ht : t < azBitsN c L) : ∃ i k j n, AzIn c L i k j n ∧ azIdx c L i k j n = t := by
  rw [← azRow_all] at ht
  have : ∀ m, m ≤ L → t < azRow c L m → ∃ i, i < m ∧ azRow c L i ≤ t ∧ t < azRow c L i + 8 * azLong c L i := by
    intro m
    induction m with
    | zero => intro _ h; simp [azRow] at h
    | succ m ih =>
      intro hm h
      rcases Nat.lt_or_ge t (azRow c L m) with h1 | h1
      · obtain ⟨i, h2, h3⟩ := ih (by omega) h1
        exact ⟨i, by omega, h3⟩
      · exact ⟨m, by omega, h1, h⟩
  obtain ⟨i, hi, h1, h2⟩ := this L (Nat.le_refl _) ht
  generalize hl : azLong c L i = l at h2
  have hq : t - azRow c L i < 8 * l := by omega
  rcases Nat.lt_or_ge (t - azRow c L i) (2 * l) with a | a
  · exact ⟨i, 0, (t - azRow c L i) / 2, (t - azRow c L i) % 2, ⟨hi, by omega, by omega, by omega⟩, by unfold azIdx; omega⟩
  rcases Nat.lt_or_ge (t - azRow c L i) (4 * l) with b | b
  · exact ⟨i, 1, (t - azRow c L i - 2 * l) / 2, (t - azRow c L i - 2 * l) % 2, ⟨hi, by omega, by omega, by omega⟩, by unfold azIdx; rw [hl]; omega⟩
  rcases Nat.lt_or_ge (t - azRow c L i) (6 * l) with d | d
  · exact ⟨i, 2, (t - azRow c L i - 4 * l) / 2, (t - azRow c L i - 4 * l) % 2, ⟨hi, by omega, by omega, by omega⟩, by unfold azIdx; rw [hl]; omega⟩
  · exact ⟨i, 3, (t - azRow c L i - 6 * l) / 2, (t - azRow c L i - 6 * l) % 2, ⟨hi, by omega, by omega, by omega⟩, by unfold azIdx; rw [hl]; omega⟩

def azX (c : Bool) (L i k j n : Nat) : Nat := azPl c L (azU c L i k j n)
def azY (c : Bool) (L i k j n : Nat) : Nat := azPl c L (azV c L i k j n)
/-- The first t bits have been laid in the modules G (row, column). -/
def LaidTo (c : Bool) (L : Nat) (b : List Bool) (t : Nat) (G : Nat → Nat → Bool) : Prop :=
  ∀ i k j n, AzIn c L i k j n → azIdx c L i k j n < t → G (azY c L i k j n) (azX c L i k j n) = b.getD (azIdx c L i k j n) false
def putG (G : Nat → Nat → Bool) (y x : Nat) (v : Bool) : Nat → Nat → Bool := fun r q => if r = y ∧ q = x then v else G r q
theorem LaidTo.zero (c : Bool) (L : Nat) (b : List Bool) (G : Nat → Nat → Bool) : LaidTo c L b 0 G := fun _ _ _ _ _ h => by omega
theorem LaidTo.next {c : Bool} {L : Nat} {b : List Bool} {G : Nat → Nat → Bool} {i k j n : Nat} (h : AzIn c L i k j n) (hG : LaidTo c L b (azIdx c L i k j n) G) :
    LaidTo c L b (azIdx c L i k j n + 1) (putG G (azY c L i k j n) (azX c L i k j n) (b.getD (azIdx c L i k j n) false)) := by
  intro i' k' j' n' h' hlt
  unfold putG
  by_cases e : azIdx c L i' k' j' n' = azIdx c L i k j n
  · obtain ⟨rfl, rfl, rfl, rfl⟩ := azIdx_inj h' h e
    rw [if_pos ⟨rfl, rfl⟩]
  · rw [if_neg, hG i' k' j' n' h' (by omega)]
    rintro ⟨e1, e2⟩
    have h1 := azPl_inj (azV_lt h') (azV_lt h) e1
    have h2 := azPl_inj (azU_lt h') (azU_lt h) e2
    obtain ⟨rfl, rfl, rfl, rfl⟩ := azUV_inj h' h h2 h1
    exact e rfl
end Go.Proofs.YtliephokeafllaaGreatDoor
