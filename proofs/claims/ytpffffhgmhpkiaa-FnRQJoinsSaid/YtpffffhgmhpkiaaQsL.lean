/- QR codes: the words of segments, and how they read as bits. Plain. -/
import Derived.Test.YtpffffhgmhpkiaaSrcL
namespace Go.Proofs.Ytpffffhgmhpkiaa
set_option linter.unusedVariables false

/-- A number in k bits, the highest first. -/
def numB (n k : Nat) : List Bool := (List.range k).map fun i => n / 2 ^ (k - 1 - i) % 2 == 1
/-- The number that k bits from place p on are. -/
def bval (B : List Bool) (p : Nat) : Nat → Nat
  | 0 => 0
  | w + 1 => 2 * bval B p w + (if B.getD (p + w) false = true then 1 else 0)
def alphL : List Nat := [48, 49, 50, 51, 52, 53, 54, 55, 56, 57] ++ (List.range 26).map (65 + ·) ++ [32, 36, 37, 42, 43, 45, 46, 47, 58]
/-- The number of a byte in alphanumeric mode, 45 if it has none. -/
def alph (c : Nat) : Nat := alphL.findIdx (· == c)
/-- The data of a segment: numbers and how many bits each has. -/
def numD : List Nat → List (Nat × Nat)
  | a :: b :: c :: t => (100 * (a - 48) + 10 * (b - 48) + (c - 48), 10) :: numD t
  | [a, b] => [(10 * (a - 48) + (b - 48), 7)]
  | [a] => [(a - 48, 4)]
  | [] => []
def alphD : List Nat → List (Nat × Nat)
  | a :: b :: t => (alph a * 45 + alph b, 11) :: alphD t
  | [a] => [(alph a, 6)]
  | [] => []
def byteD (s : List Nat) : List (Nat × Nat) := s.map fun c => (c, 8)
def dataD (m : Nat) (s : List Nat) : List (Nat × Nat) := if m = 1 then numD s else if m = 2 then alphD s else byteD s
/-- How many bits a count has. -/
def cntB (m v : Nat) : Nat :=
  if m = 1 then (if v ≤ 9 then 10 else if v ≤ 26 then 12 else 14) else if m = 2 then (if v ≤ 9 then 9 else if v ≤ 26 then 11 else 13) else (if v ≤ 9 then 8 else 16)
def segD (v : Nat) (x : Nat × List Nat) : List (Nat × Nat) := (x.1, 4) :: (x.2.length, cntB x.1 v) :: dataD x.1 x.2
def strD (v : Nat) (l : List (Nat × List Nat)) : List (Nat × Nat) := l.flatMap (segD v)
def bitsD (l : List (Nat × Nat)) : List Bool := l.flatMap fun x => numB x.1 x.2
theorem numB_len (n k : Nat) : (numB n k).length = k := by simp [numB]
theorem bval_lt (B : List Bool) (p : Nat) : ∀ w, bval B p w < 2 ^ w
  | 0 => by simp [bval]
  | w + 1 => by
    have := bval_lt B p w
    rw [bval, Nat.pow_succ]
    split <;> omega
theorem bval_add (B : List Bool) (p v : Nat) : ∀ w, bval B p (v + w) = bval B p v * 2 ^ w + bval B (p + v) w
  | 0 => by simp [bval]
  | w + 1 => by
    have := bval_add B p v w
    rw [← Nat.add_assoc, bval, this, bval, Nat.pow_succ, Nat.add_assoc p v w]
    rw [← Nat.mul_assoc]
    omega
/-- A number that stands in bits. -/
theorem bval_num (pre post : List Bool) (n k : Nat) (hn : n < 2 ^ k) : ∀ w, w ≤ k → bval (pre ++ (numB n k ++ post)) pre.length w = n / 2 ^ (k - w)
  | 0, _ => by simp [bval]; exact (Nat.div_eq_of_lt hn).symm
  | w + 1, h => by
    have ih := bval_num pre post n k hn w (by omega)
    rw [bval, ih]
    have e : (pre ++ (numB n k ++ post)).getD (pre.length + w) false = (n / 2 ^ (k - 1 - w) % 2 == 1) := by
      rw [List.getD, List.getElem?_append_right (by omega), Nat.add_sub_cancel_left, List.getElem?_append_left (by rw [numB_len]; omega)]
      simp [numB, List.getElem?_range (show w < k by omega)]
    rw [e, show k - 1 - w = k - (w + 1) from by omega]
    have e2 : n / 2 ^ (k - w) = n / 2 ^ (k - (w + 1)) / 2 := by
      rw [Nat.div_div_eq_div_mul, ← Nat.pow_succ, show (k - (w + 1)).succ = k - w from by omega]
    rw [e2]
    generalize n / 2 ^ (k - (w + 1)) = q
    by_cases hq : q % 2 = 1
    · rw [hq, if_pos (by decide)]; omega
    · rw [if_neg (by simp; omega)]; omega
/-- Numbers that stand in bits one behind the other from place p on. -/
def DAt (B : List Bool) : Nat → List (Nat × Nat) → Prop
  | _, [] => True
  | p, (n, k) :: t => p + k ≤ B.length ∧ bval B p k = n ∧ DAt B (p + k) t
def lenD (l : List (Nat × Nat)) : Nat := (l.map (·.2)).sum
theorem lenD_cons (x : Nat × Nat) (l : List (Nat × Nat)) : lenD (x :: l) = x.2 + lenD l := by simp [lenD]
theorem lenD_app (a b : List (Nat × Nat)) : lenD (a ++ b) = lenD a + lenD b := by simp [lenD]
theorem bitsD_len : ∀ l : List (Nat × Nat), (bitsD l).length = lenD l
  | [] => rfl
  | x :: l => by
    have := bitsD_len l
    simp only [bitsD, List.flatMap_cons, List.length_append, numB_len] at this ⊢
    rw [this, lenD_cons]
theorem dat_bits (post : List Bool) : ∀ (l : List (Nat × Nat)) (pre : List Bool), (∀ x ∈ l, x.1 < 2 ^ x.2) → DAt (pre ++ (bitsD l ++ post)) pre.length l
  | [], _, _ => trivial
  | (n, k) :: t, pre, h => by
    have ih := dat_bits post t (pre ++ numB n k) (fun x hx => h x (by simp [hx]))
    have e : pre ++ (bitsD ((n, k) :: t) ++ post) = pre ++ (numB n k ++ (bitsD t ++ post)) := by simp [bitsD]
    have e2 : pre ++ numB n k ++ (bitsD t ++ post) = pre ++ (numB n k ++ (bitsD t ++ post)) := by simp
    rw [e2, List.length_append, numB_len] at ih
    rw [e]
    have hb := bval_num pre (bitsD t ++ post) n k (h (n, k) (by simp)) k (Nat.le_refl _)
    rw [Nat.sub_self, Nat.pow_zero, Nat.div_one] at hb
    exact ⟨by simp [numB_len], hb, ih⟩
/-- Bits as bytes. -/
def bytesB (B : List Bool) : List Nat := (List.range (B.length / 8)).map fun i => bval B (8 * i) 8
theorem bytesB_at (B : List Bool) (i : Nat) (h : i < B.length / 8) (post : List Nat) : (bytesB B ++ post).getD i 0 = bval B (8 * i) 8 := by
  rw [List.getD, List.getElem?_append_left (by simp [bytesB]; exact h)]
  simp [bytesB, List.getElem?_range h]
theorem bitOf_bytes (B : List Bool) (post : List Nat) (p : Nat) (h : p / 8 < B.length / 8) : bitOf (bytesB B ++ post) p = if B.getD p false = true then 1 else 0 := by
  unfold bitOf
  rw [bytesB_at B (p / 8) h post]
  have h1 := bval_add B (8 * (p / 8)) (p % 8 + 1) (7 - p % 8)
  rw [show p % 8 + 1 + (7 - p % 8) = 8 from by omega] at h1
  have h2 := bval_lt B (8 * (p / 8) + (p % 8 + 1)) (7 - p % 8)
  rw [h1, Nat.mul_comm, Nat.mul_add_div (Nat.two_pow_pos _), Nat.div_eq_of_lt h2, Nat.add_zero, bval, show 8 * (p / 8) + p % 8 = p from by omega]
  split <;> omega
theorem rdn_bytes (B : List Bool) (post : List Nat) (h8 : B.length % 8 = 0) (p : Nat) : ∀ w, p + w ≤ B.length → rdn (bytesB B ++ post) p w = bval B p w
  | 0, _ => rfl
  | w + 1, h => by
    rw [rdn, rdn_bytes B post h8 p w (by omega), bval, bitOf_bytes B post (p + w) (by omega)]
/-- The same, read from words. -/
def RAt (W : List Nat) : Nat → List (Nat × Nat) → Prop
  | _, [] => True
  | p, (n, k) :: t => p + k ≤ 8 * W.length ∧ rdn W p k = n ∧ RAt W (p + k) t
theorem rat_of (B : List Bool) (post : List Nat) (h8 : B.length % 8 = 0) : ∀ (l : List (Nat × Nat)) (p : Nat), DAt B p l → RAt (bytesB B ++ post) p l
  | [], _, _ => trivial
  | (n, k) :: t, p, ⟨h1, h2, h3⟩ => by
    refine ⟨?_, by rw [rdn_bytes B post h8 p k h1]; exact h2, rat_of B post h8 t (p + k) h3⟩
    simp [bytesB]; omega
theorem RAt.app {W : List Nat} : ∀ {a b : List (Nat × Nat)} {p : Nat}, RAt W p (a ++ b) → RAt W p a ∧ RAt W (p + lenD a) b
  | [], b, p, h => ⟨trivial, by simpa [lenD] using h⟩
  | (n, k) :: a, b, p, ⟨h1, h2, h3⟩ => by
    obtain ⟨g1, g2⟩ := RAt.app h3
    exact ⟨⟨h1, h2, g1⟩, by rw [lenD_cons, ← Nat.add_assoc]; exact g2⟩
/-- The words of a stream of bits, for so much room. -/
def fillB (B : List Bool) (room : Nat) : List Bool :=
  (B ++ List.replicate (min 4 (8 * room - B.length)) false) ++ List.replicate ((8 - (B ++ List.replicate (min 4 (8 * room - B.length)) false).length % 8) % 8) false
def qrPads (k : Nat) : List Nat := (List.range k).map fun i => if i % 2 = 0 then 236 else 17
def wordsQ (B : List Bool) (room : Nat) : List Nat := bytesB (fillB B room) ++ qrPads (room - (fillB B room).length / 8)
theorem fill_len (B : List Bool) (room : Nat) (h : B.length ≤ 8 * room) : (fillB B room).length % 8 = 0 ∧ (fillB B room).length ≤ 8 * room ∧ B.length + min 4 (8 * room - B.length) ≤ (fillB B room).length := by
  have hm : B.length + min 4 (8 * room - B.length) ≤ 8 * room := by omega
  simp only [fillB, List.length_append, List.length_replicate]
  generalize min 4 (8 * room - B.length) = m at *
  omega
theorem bval_zero (B : List Bool) (p : Nat) : ∀ w, (∀ i, i < w → B.getD (p + i) false = false) → bval B p w = 0
  | 0, _ => rfl
  | w + 1, h => by
    rw [bval, bval_zero B p w (fun i hi => h i (by omega)), h w (by omega)]
    rfl
/-- What the reader meets: the numbers of the stream, and then the end. -/
theorem words_read (l : List (Nat × Nat)) (room : Nat) (hl : ∀ x ∈ l, x.1 < 2 ^ x.2) (h : lenD l ≤ 8 * room) :
    (wordsQ (bitsD l) room).length = room ∧ RAt (wordsQ (bitsD l) room) 0 l ∧ (8 * room - lenD l < 4 ∨ lenD l + 4 ≤ 8 * room ∧ rdn (wordsQ (bitsD l) room) (lenD l) 4 = 0) := by
  have hb := bitsD_len l
  obtain ⟨f1, f2, f3⟩ := fill_len (bitsD l) room (by omega)
  refine ⟨by simp [wordsQ, bytesB, qrPads]; omega, ?_, ?_⟩
  · refine rat_of (fillB (bitsD l) room) _ f1 l 0 ?_
    have := dat_bits (List.replicate (min 4 (8 * room - (bitsD l).length)) false ++ List.replicate ((8 - (bitsD l ++ List.replicate (min 4 (8 * room - (bitsD l).length)) false).length % 8) % 8) false) l [] hl
    simpa [fillB] using this
  · by_cases h4 : 8 * room - lenD l < 4
    · exact .inl h4
    · refine .inr ⟨by omega, ?_⟩
      rw [wordsQ, rdn_bytes (fillB (bitsD l) room) _ f1 (lenD l) 4 (by omega)]
      refine bval_zero _ _ 4 (fun i hi => ?_)
      unfold fillB
      rw [List.append_assoc, List.getD, List.getElem?_append_right (by omega), List.replicate_append_replicate]
      rw [List.getElem?_replicate]
      split <;> rfl
end Go.Proofs.Ytpffffhgmhpkiaa
