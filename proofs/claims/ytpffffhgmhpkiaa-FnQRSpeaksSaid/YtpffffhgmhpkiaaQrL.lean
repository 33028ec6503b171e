/- QR codes: the format and the version as they are read from modules, some of them wrong. Plain. -/
import Derived.Test.YtpffffhgmhpkiaaPopL
namespace Go.Proofs.Ytpffffhgmhpkiaa
set_option linter.unusedVariables false

/-- A number from its bits, the highest first, the first j of k. -/
def msb (f : Nat → Bool) (k : Nat) : Nat → Nat
  | 0 => 0
  | j + 1 => 2 * msb f k j + (if f (k - 1 - j) = true then 1 else 0)
theorem msb_lt (f : Nat → Bool) (k : Nat) : ∀ j, msb f k j < 2 ^ j
  | 0 => by simp [msb]
  | j + 1 => by
    have := msb_lt f k j
    rw [msb, Nat.pow_succ]
    split <;> omega
theorem msb_num (f : Nat → Bool) (k F : Nat) (hF : F < 2 ^ k) (h : ∀ i, i < k → f i = F.testBit i) : ∀ j, j ≤ k → msb f k j = F / 2 ^ (k - j)
  | 0, _ => by simp [msb]; exact (Nat.div_eq_of_lt hF).symm
  | j + 1, hj => by
    rw [msb, msb_num f k F hF h j (by omega), h _ (by omega), show k - 1 - j = k - (j + 1) from by omega]
    have e2 : F / 2 ^ (k - j) = F / 2 ^ (k - (j + 1)) / 2 := by
      rw [Nat.div_div_eq_div_mul, ← Nat.pow_succ, show (k - (j + 1)).succ = k - j from by omega]
    rw [e2, Nat.testBit_eq_decide_div_mod_eq]
    generalize F / 2 ^ (k - (j + 1)) = q
    by_cases hq : q % 2 = 1
    · rw [hq, if_pos (by decide)]; omega
    · rw [if_neg (by simp; omega)]; omega
/-- How many of the first j of k bits differ. -/
def cnt (f g : Nat → Bool) (k : Nat) : Nat → Nat
  | 0 => 0
  | j + 1 => cnt f g k j + (if f (k - 1 - j) = g (k - 1 - j) then 0 else 1)
theorem far_msb (f g : Nat → Bool) (k : Nat) : ∀ j K, j ≤ K → pops K (msb f k j ^^^ msb g k j) = cnt f g k j
  | 0, K, _ => by simp [msb, cnt, pops_zero]
  | j + 1, 0, h => by omega
  | j + 1, K + 1, h => by
    have ih := far_msb f g k j K (by omega)
    rw [msb, msb, cnt, ← ih, pops, xor_half, xor_low]
    generalize msb f k j = a
    generalize msb g k j = b
    have e1 : ∀ b : Bool, (2 * a + (if b = true then 1 else 0)) / 2 = a ∧ (2 * a + (if b = true then 1 else 0)) % 2 = (if b = true then 1 else 0) := fun b => by cases b <;> simp <;> omega
    have e2 : ∀ c : Bool, (2 * b + (if c = true then 1 else 0)) / 2 = b ∧ (2 * b + (if c = true then 1 else 0)) % 2 = (if c = true then 1 else 0) := fun c => by cases c <;> simp <;> omega
    rw [(e1 _).1, (e1 _).2, (e2 _).1, (e2 _).2]
    cases f (k - 1 - j) <;> cases g (k - 1 - j) <;> simp <;> omega
/-- At most three places at which two rows of bits differ. -/
theorem cnt_three (f g : Nat → Bool) (a b c k : Nat) (h : ∀ i, i < k → f i ≠ g i → i = a ∨ i = b ∨ i = c) :
    ∀ j, j ≤ k → cnt f g k j ≤ (if k - j ≤ a then 1 else 0) + (if k - j ≤ b then 1 else 0) + (if k - j ≤ c then 1 else 0)
  | 0, _ => by simp [cnt]
  | j + 1, hj => by
    have ih := cnt_three f g a b c k h j (by omega)
    rw [cnt]
    by_cases he : f (k - 1 - j) = g (k - 1 - j)
    · rw [if_pos he]
      refine Nat.le_trans ih ?_
      split <;> split <;> split <;> split <;> split <;> split <;> omega
    · rw [if_neg he]
      have hi := h (k - 1 - j) (by omega) he
      refine Nat.le_trans (Nat.add_le_add_right ih 1) ?_
      split <;> split <;> split <;> split <;> split <;> split <;> omega
theorem far_three (f : Nat → Bool) (F k a b c : Nat) (hk : k ≤ 18) (hF : F < 2 ^ k) (h : ∀ i, i < k → f i ≠ F.testBit i → i = a ∨ i = b ∨ i = c) : far (msb f k k) F ≤ 3 := by
  have e := msb_num (fun i => F.testBit i) k F hF (fun i _ => rfl) k (Nat.le_refl _)
  rw [Nat.sub_self, Nat.pow_zero, Nat.div_one] at e
  unfold far
  rw [← e, far_msb f _ k k 18 hk]
  refine Nat.le_trans (cnt_three f _ a b c k h k (Nat.le_refl _)) ?_
  split <;> split <;> split <;> omega
/-- The 15 bits of level and mask. -/
def ftab : List Nat := [0x5412, 0x5125, 0x5E7C, 0x5B4B, 0x45F9, 0x40CE, 0x4F97, 0x4AA0, 0x77C4, 0x72F3, 0x7DAA, 0x789D, 0x662F, 0x6318, 0x6C41, 0x6976, 0x1689, 0x13BE, 0x1CE7, 0x19D0, 0x0762, 0x0255, 0x0D0C, 0x083B, 0x355F, 0x3068, 0x3F31, 0x3A06, 0x24B4, 0x2183, 0x2EDA, 0x2BED]
def fb (i : Nat) : Nat := ftab.getD i 0
theorem ftab_far : ((List.range 32).all fun i => (List.range 32).all fun j => i == j || decide (7 ≤ far (fb i) (fb j))) = true := by decide +kernel
theorem far_comm (x y : Nat) : far x y = far y x := by unfold far; rw [Nat.xor_comm]
theorem far_tri (x y z : Nat) : far x z ≤ far x y + far y z := by
  unfold far
  have := pops_tri 18 (x ^^^ y) (y ^^^ z)
  rwa [show x ^^^ y ^^^ (y ^^^ z) = x ^^^ z from by rw [Nat.xor_assoc, ← Nat.xor_assoc y y z, Nat.xor_self, Nat.zero_xor]] at this
theorem near_f (x i j : Nat) (hi : i < 32) (hj : j < 32) (h1 : far x (fb i) ≤ 3) (h2 : far x (fb j) ≤ 3) : i = j := by
  have h := List.all_eq_true.1 (List.all_eq_true.1 ftab_far i (List.mem_range.2 hi)) j (List.mem_range.2 hj)
  simp only [Bool.or_eq_true, beq_iff_eq, decide_eq_true_eq] at h
  rcases h with h | h
  · exact h
  · have := far_tri (fb i) x (fb j)
    rw [far_comm (fb i) x] at this
    omega
theorem fb_lt (i : Nat) : fb i < 32768 := by
  rcases Nat.lt_or_ge i 32 with h | h
  · have : ((List.range 32).all fun i => decide (fb i < 32768)) = true := by decide +kernel
    simpa using List.all_eq_true.1 this i (List.mem_range.2 h)
  · unfold fb; rw [List.getD, List.getElem?_eq_none (by simpa [ftab] using h)]; decide
/-- Where the bits of the two copies of the format stand, and those of the version: row and column. -/
def p1 (i : Nat) : Nat × Nat := if i ≤ 5 then (i, 8) else if i = 6 then (7, 8) else if i = 7 then (8, 8) else if i = 8 then (8, 7) else (8, 14 - i)
def p2 (n i : Nat) : Nat × Nat := if i ≤ 7 then (8, n - 1 - i) else (n + i - 15, 8)
def pv (n i : Nat) : Nat × Nat := (i / 3, n - 11 + i % 3)
def pw (n i : Nat) : Nat × Nat := (n - 11 + i % 3, i / 3)
/-- A grid in which the format and the version stand, but for some bits. -/
structure Near (v F V : Nat) (W : Nat → Nat → Prop) (G : Nat → Nat → Bool) : Prop where
  f1 : ∀ i, i < 15 → G (p1 i).1 (p1 i).2 ≠ F.testBit i → W 0 i
  f2 : ∀ i, i < 15 → G (p2 (17 + 4 * v) i).1 (p2 (17 + 4 * v) i).2 ≠ F.testBit i → W 1 i
  vv : 7 ≤ v → ∀ i, i < 18 → G (pv (17 + 4 * v) i).1 (pv (17 + 4 * v) i).2 ≠ V.testBit i → W 2 i
def set2 (G : Nat → Nat → Bool) (r c : Nat) (b : Bool) : Nat → Nat → Bool := fun y x => if y = r ∧ x = c then b else G y x
theorem set2_ne {G : Nat → Nat → Bool} {r c y x : Nat} {b : Bool} (h : ¬ (y = r ∧ x = c)) : set2 G r c b y x = G y x := by unfold set2; rw [if_neg h]
/-- What is no place of these keeps it. -/
theorem Near.other {v F V : Nat} {W : Nat → Nat → Prop} {G : Nat → Nat → Bool} (h : Near v F V W G) (r c : Nat) (b : Bool)
    (h1 : ∀ i, i < 15 → ¬ ((p1 i).1 = r ∧ (p1 i).2 = c)) (h2 : ∀ i, i < 15 → ¬ ((p2 (17 + 4 * v) i).1 = r ∧ (p2 (17 + 4 * v) i).2 = c))
    (h3 : 7 ≤ v → ∀ i, i < 18 → ¬ ((pv (17 + 4 * v) i).1 = r ∧ (pv (17 + 4 * v) i).2 = c)) : Near v F V W (set2 G r c b) :=
  ⟨fun i hi hn => h.f1 i hi (by rwa [set2_ne (h1 i hi)] at hn), fun i hi hn => h.f2 i hi (by rwa [set2_ne (h2 i hi)] at hn), fun h7 i hi hn => h.vv h7 i hi (by rwa [set2_ne (h3 h7 i hi)] at hn)⟩
theorem p1_inj {i j : Nat} (hi : i < 15) (hj : j < 15) (h : (p1 i).1 = (p1 j).1 ∧ (p1 i).2 = (p1 j).2) : i = j := by
  revert h; unfold p1; repeat' split
  all_goals (dsimp only; intro h; omega)
theorem p2_inj {n i j : Nat} (hn : 21 ≤ n) (hi : i < 15) (hj : j < 15) (h : (p2 n i).1 = (p2 n j).1 ∧ (p2 n i).2 = (p2 n j).2) : i = j := by
  revert h; unfold p2; repeat' split
  all_goals (dsimp only; intro h; omega)
theorem p12 {n i j : Nat} (hn : 21 ≤ n) (hi : i < 15) (hj : j < 15) : ¬ ((p1 i).1 = (p2 n j).1 ∧ (p1 i).2 = (p2 n j).2) := by
  unfold p1 p2; repeat' split
  all_goals (dsimp only; intro h; omega)
theorem p1v {n i j : Nat} (hn : 45 ≤ n) (hi : i < 15) (hj : j < 18) : ¬ ((p1 i).1 = (pv n j).1 ∧ (p1 i).2 = (pv n j).2) := by
  unfold p1 pv; repeat' split
  all_goals (dsimp only; intro h; omega)
theorem p2v {n i j : Nat} (hn : 45 ≤ n) (hi : i < 15) (hj : j < 18) : ¬ ((p2 n i).1 = (pv n j).1 ∧ (p2 n i).2 = (pv n j).2) := by
  unfold p2 pv; repeat' split
  all_goals (dsimp only; intro h; omega)
theorem pv_inj {n i j : Nat} (h : (pv n i).1 = (pv n j).1 ∧ (pv n i).2 = (pv n j).2) : i = j := by
  revert h; unfold pv; repeat' split
  all_goals (dsimp only; intro h; omega)
/-- A bit of a copy that is wrong. -/
theorem Near.w1 {v F V : Nat} {W : Nat → Nat → Prop} {G : Nat → Nat → Bool} (h : Near v F V W G) (hv : 1 ≤ v) (w : Nat) (hw : w < 6) (hW : W 0 w) (b : Bool) : Near v F V W (set2 G w 8 b) := by
  have e : p1 w = (w, 8) := by unfold p1; rw [if_pos (by omega)]
  refine ⟨fun i hi hn => ?_, fun i hi hn => h.f2 i hi ?_, fun h7 i hi hn => h.vv h7 i hi ?_⟩
  · by_cases hw' : (p1 i).1 = w ∧ (p1 i).2 = 8
    · obtain rfl : i = w := p1_inj hi (by omega) (by rw [e]; exact hw')
      exact hW
    · rw [set2_ne hw'] at hn; exact h.f1 i hi hn
  · rwa [set2_ne (fun hh => p12 (n := 17 + 4 * v) (by omega) (show w < 15 by omega) hi (by rw [e]; exact ⟨hh.1.symm, hh.2.symm⟩))] at hn
  · rwa [set2_ne (fun hh => p1v (n := 17 + 4 * v) (by omega) (show w < 15 by omega) hi (by rw [e]; exact ⟨hh.1.symm, hh.2.symm⟩))] at hn
theorem Near.w2 {v F V : Nat} {W : Nat → Nat → Prop} {G : Nat → Nat → Bool} (h : Near v F V W G) (hv : 1 ≤ v) (w : Nat) (hw : w < 8) (hW : W 1 w) (b : Bool) : Near v F V W (set2 G 8 (17 + 4 * v - 1 - w) b) := by
  have e : p2 (17 + 4 * v) w = (8, 17 + 4 * v - 1 - w) := by unfold p2; rw [if_pos (by omega)]
  refine ⟨fun i hi hn => h.f1 i hi ?_, fun i hi hn => ?_, fun h7 i hi hn => h.vv h7 i hi ?_⟩
  · rwa [set2_ne (fun hh => p12 (n := 17 + 4 * v) (by omega) hi (show w < 15 by omega) (by rw [e]; exact hh))] at hn
  · by_cases hw' : (p2 (17 + 4 * v) i).1 = 8 ∧ (p2 (17 + 4 * v) i).2 = 17 + 4 * v - 1 - w
    · obtain rfl : i = w := p2_inj (n := 17 + 4 * v) (by omega) hi (by omega) (by rw [e]; exact hw')
      exact hW
    · rw [set2_ne hw'] at hn; exact h.f2 i hi hn
  · rwa [set2_ne (fun hh => p2v (n := 17 + 4 * v) (by omega) (show w < 15 by omega) hi (by rw [e]; exact ⟨hh.1.symm, hh.2.symm⟩))] at hn
theorem Near.w3 {v F V : Nat} {W : Nat → Nat → Prop} {G : Nat → Nat → Bool} (h : Near v F V W G) (hv : 7 ≤ v) (w : Nat) (hw : w < 18) (hW : W 2 w) (b : Bool) : Near v F V W (set2 G (w / 3) (17 + 4 * v - 11 + w % 3) b) := by
  refine ⟨fun i hi hn => h.f1 i hi ?_, fun i hi hn => h.f2 i hi ?_, fun h7 i hi hn => ?_⟩
  · have := p1v (n := 17 + 4 * v) (by omega) hi hw
    rwa [set2_ne (r := w / 3) (c := 17 + 4 * v - 11 + w % 3) this] at hn
  · have := p2v (n := 17 + 4 * v) (by omega) hi hw
    rwa [set2_ne (r := w / 3) (c := 17 + 4 * v - 11 + w % 3) this] at hn
  · by_cases hw' : (pv (17 + 4 * v) i).1 = w / 3 ∧ (pv (17 + 4 * v) i).2 = 17 + 4 * v - 11 + w % 3
    · obtain rfl : i = w := pv_inj (n := 17 + 4 * v) hw'
      exact hW
    · rw [set2_ne hw'] at hn; exact h.vv h7 i hi hn
theorem Near.w4 {v F V : Nat} {W : Nat → Nat → Prop} {G : Nat → Nat → Bool} (h : Near v F V W G) (hv : 7 ≤ v) (w : Nat) (hw : w < 18) (b : Bool) : Near v F V W (set2 G (17 + 4 * v - 11 + w % 3) (w / 3) b) := by
  refine h.other _ _ _ (fun i hi hh => ?_) (fun i hi hh => ?_) (fun h7 i hi hh => ?_)
  · revert hh; unfold p1; repeat' split
    all_goals (dsimp only; intro hh; omega)
  · revert hh; unfold p2; repeat' split
    all_goals (dsimp only; intro hh; omega)
  · revert hh; unfold pv; repeat' split
    all_goals (dsimp only; intro hh; omega)
end Go.Proofs.Ytpffffhgmhpkiaa
