/- Sums, rests and values of polynomials, plain (turned from the seat of Reed-Solomon). -/
import Derived.Test.YtliephokeafllaaGreatDoorRsB
import Derived.Laws.CopyOwn
import Derived.Deep.DrawnRows
import Derived.Lib.Builder
import Derived.Deep.LoopGhost
namespace Go.Proofs.YtliephokeafllaaGreatDoor.Rs
/- The field's and the polynomials' small methods: powers, logarithms, inverses, degree, zero. -/
section
open Go.RowKit
set_option linter.unusedVariables false

/-- The logarithm of an element, as the table has it. -/
def lg (p m a : Nat) : Nat := (logTo p m (2 ^ m - 1)).getD a 0
/-- The inverse of an element. -/
def inv (p m a : Nat) : Nat := ex p m (2 ^ m - 1 - lg p m a)

section
variable {p m : Nat}
theorem lg_ex (h : IsGF p m) {i : Nat} (hi : i < 2 ^ m - 1) : lg p m (ex p m i) = i := logTo_ex h (2 ^ m - 1) (Nat.le_refl _) i hi
theorem lg_lt (h : IsGF p m) {a : Nat} (h0 : 0 < a) (ha : a < 2 ^ m) : lg p m a < 2 ^ m - 1 := by
  obtain ⟨i, hi, rfl⟩ := ex_surj h h0 ha
  rw [lg_ex h hi]; exact hi
theorem ex_lg (h : IsGF p m) {a : Nat} (h0 : 0 < a) (ha : a < 2 ^ m) : ex p m (lg p m a) = a := by
  obtain ⟨i, hi, rfl⟩ := ex_surj h h0 ha
  rw [lg_ex h hi]
theorem inv_lt (h : IsGF p m) (a : Nat) : inv p m a < 2 ^ m := ex_lt h _
theorem inv_pos (h : IsGF p m) (a : Nat) : 0 < inv p m a := ex_pos h _
theorem gm_inv (h : IsGF p m) {a : Nat} (h0 : 0 < a) (ha : a < 2 ^ m) : gm p m a (inv p m a) = 1 := by
  have hl := lg_lt h h0 ha
  conv => lhs; lhs; rw [← ex_lg h h0 ha]
  rw [inv, gm_exex h, show lg p m a + (2 ^ m - 1 - lg p m a) = 2 ^ m - 1 from by omega, ex_round h]
end

/-- A value is handed back, the world is as it was. -/
def SameOut (v : Value) (w : World) (e : Ending) (w' : World) : Prop := e = .returned v ∧ w = w'

end
/- The sum of two polynomials. -/
section
open Go.RowKit
set_option linter.unusedVariables false

/-- The sum of a list and of one that is no shorter, by the ends. -/
def addSL (s l : List Nat) : List Nat := List.zipWith (· ^^^ ·) (List.replicate (l.length - s.length) 0 ++ s) l
/-- The sum of two lists, by the ends. -/
def addL (a b : List Nat) : List Nat := if b.length < a.length then addSL b a else addSL a b

section
variable {p m : Nat}
theorem addSL_len {s l : List Nat} (h : s.length ≤ l.length) : (addSL s l).length = l.length := by simp [addSL]; omega
theorem addL_len (a b : List Nat) : (addL a b).length = max a.length b.length := by
  unfold addL
  split
  · rw [addSL_len (by omega)]; omega
  · rw [addSL_len (by omega)]; omega
theorem addSL_low {s l : List Nat} (h : s.length ≤ l.length) (i : Nat) (hi : i < l.length - s.length) : (addSL s l).getD i 0 = l.getD i 0 := by
  unfold addSL
  rw [List.getD, List.getElem?_zipWith, List.getElem?_append_left (by simpa using hi), List.getElem?_replicate, if_pos hi, List.getElem?_eq_getElem (by omega)]
  simp [List.getD, List.getElem?_eq_getElem (show i < l.length by omega)]
theorem addSL_high {s l : List Nat} (h : s.length ≤ l.length) (i : Nat) (hi : l.length - s.length ≤ i) (hl : i < l.length) : (addSL s l).getD i 0 = s.getD (i - (l.length - s.length)) 0 ^^^ l.getD i 0 := by
  unfold addSL
  rw [List.getD, List.getElem?_zipWith, List.getElem?_append_right (by simpa using hi), List.length_replicate, List.getElem?_eq_getElem (show i - (l.length - s.length) < s.length by omega), List.getElem?_eq_getElem hl]
  simp [List.getD, List.getElem?_eq_getElem (show i < l.length by omega), List.getElem?_eq_getElem (show i - (l.length - s.length) < s.length by omega)]
theorem allIn_of_getD {l : List Nat} (h : ∀ i, i < l.length → l.getD i 0 < 2 ^ m) : AllIn m l := by
  intro x hx
  obtain ⟨i, hi, rfl⟩ := List.getElem_of_mem hx
  have := h i hi
  rwa [List.getD, List.getElem?_eq_getElem hi] at this
theorem addSL_in (h : IsGF p m) {s l : List Nat} (hle : s.length ≤ l.length) (hs : AllIn m s) (hl : AllIn m l) : AllIn m (addSL s l) := by
  apply allIn_of_getD
  intro i hi
  rw [addSL_len hle] at hi
  rcases Nat.lt_or_ge i (l.length - s.length) with h1 | h1
  · rw [addSL_low hle i h1]; exact getD_lt h hl i
  · rw [addSL_high hle i h1 hi]; exact Nat.xor_lt_two_pow (getD_lt h hs _) (getD_lt h hl _)
theorem addL_in (h : IsGF p m) {a b : List Nat} (ha : AllIn m a) (hb : AllIn m b) : AllIn m (addL a b) := by
  unfold addL
  split
  · exact addSL_in h (by omega) hb ha
  · exact addSL_in h (by omega) ha hb
theorem addSL_take {s l : List Nat} (h : s.length ≤ l.length) : (addSL s l).take (l.length - s.length) = l.take (l.length - s.length) := by
  apply List.ext_getElem
  · simp [addSL_len h]
  · intro i h1 h2
    have hi : i < l.length - s.length := by simp at h1; omega
    have := addSL_low h i hi
    rw [List.getD, List.getD, List.getElem?_eq_getElem (by rw [addSL_len h]; omega), List.getElem?_eq_getElem (by omega)] at this
    simpa using this
theorem ext_getD {l k : List Nat} (hl : l.length = k.length) (h : ∀ i, i < l.length → l.getD i 0 = k.getD i 0) : l = k := by
  apply List.ext_getElem hl
  intro i h1 h2
  have := h i h1
  rw [List.getD, List.getD, List.getElem?_eq_getElem h1, List.getElem?_eq_getElem h2] at this
  simpa using this
theorem addL_zero (b : List Nat) (h1 : 1 ≤ b.length) : addL [0] b = b := by
  unfold addL
  rw [if_neg (by simp only [List.length_singleton]; omega)]
  apply ext_getD (addSL_len (by simpa using h1))
  intro i hi
  rw [addSL_len (by simpa using h1)] at hi
  rcases Nat.lt_or_ge i (b.length - 1) with h2 | h2
  · rw [addSL_low (by simpa using h1) i (by simpa using h2)]
  · rw [addSL_high (by simpa using h1) i (by simpa using h2) hi]
    simp only [List.length_singleton]
    rw [show i - (b.length - 1) = 0 from by omega]
    simp
theorem addSL_comm {a b : List Nat} (h : a.length = b.length) : addSL a b = addSL b a := by
  apply ext_getD (by rw [addSL_len (by omega), addSL_len (by omega), h])
  intro i hi
  rw [addSL_len (by omega)] at hi
  rw [addSL_high (by omega) i (by omega) hi, addSL_high (by omega) i (by omega) (by omega), h, Nat.sub_self, Nat.sub_zero, Nat.xor_comm]
theorem addL_comm (a b : List Nat) : addL a b = addL b a := by
  unfold addL
  rcases Nat.lt_trichotomy a.length b.length with h | h | h
  · rw [if_neg (by omega), if_pos h]
  · rw [if_neg (by omega), if_neg (by omega), addSL_comm h]
  · rw [if_pos h, if_neg (by omega)]
theorem tidy_zero {l : List Nat} (hT : tidy l = l) (h1 : 1 ≤ l.length) (h0 : l.getD 0 0 = 0) : l = [0] := by
  have := (tidy_cases l).2.2.1
  rw [hT] at this
  rcases this with h | h
  · exact absurd h0 h
  · match l, h with
    | [x], _ => simp at h0; rw [h0]
end

theorem splice_start (n d : Nat) (xs : List Nat) (hd : d ≤ n) (hx : xs.length = d) : splice (List.replicate n (Value.int .i64 0)) 0 (ints xs) = ints (xs ++ List.replicate (n - d) 0) := by
  simp [splice, ints, hx]

attribute [local go_sem ↓] Go.wp_at_zero Go.wp_at_succ
end
/- The product of two polynomials, by the package. -/
section
open Go.RowKit
set_option linter.unusedVariables false

section
variable {p m : Nat}
theorem rowTo_zeroX (b : List Nat) (i : Nat) (out : List Nat) : ∀ k, rowTo p m 0 b i out k = out
  | 0 => rfl
  | k + 1 => by
    rw [rowTo, rowTo_zeroX b i out k, zero_gm, Nat.xor_zero]
    apply ext_getD (by simp)
    intro j hj
    rw [List.length_set] at hj
    by_cases e : i + k = j
    · subst e; simp [List.getD, hj]
    · simp [List.getD, List.getElem?_set_ne e]
theorem rowTo_zeros (x i n : Nat) (h : i < n) : rowTo p m x [0] i (List.replicate n 0) 1 = List.replicate n 0 := by
  simp only [rowTo, Nat.add_zero]
  have h0 : gm p m x (([0] : List Nat).getD 0 0) = 0 := gm_zero x
  rw [h0, Nat.xor_zero]
  apply ext_getD (by simp)
  intro j hj
  rw [List.length_set, List.length_replicate] at hj
  by_cases e : i = j
  · subst e; simp [List.getD, hj]
  · simp [List.getD, List.getElem?_set_ne e]
theorem prod_zeroL (b : List Nat) (h1 : 1 ≤ b.length) : tidy (prodL p m [0] b) = [0] := by
  have e : prodL p m [0] b = List.replicate ((b.length - 1) + 1) 0 := by
    rw [prodL]
    show rowTo p m 0 b 0 (List.replicate (1 + b.length - 1) 0) b.length = _
    rw [rowTo_zeroX]
    congr 1
    omega
  rw [e, tidy_reps]
theorem prod_zeroR (a : List Nat) (h1 : 1 ≤ a.length) : tidy (prodL p m a [0]) = [0] := by
  have e : ∀ i, i ≤ a.length → prodTo p m a [0] i = List.replicate a.length 0 := by
    intro i
    induction i with
    | zero => intro _; simp [prodTo]
    | succ i ih =>
      intro hi
      rw [prodTo, ih (by omega)]
      exact rowTo_zeros _ _ _ (by omega)
  rw [prodL, e a.length (Nat.le_refl _), show a.length = (a.length - 1) + 1 from by omega, tidy_reps]
end

attribute [local go_sem ↓] Go.wp_at_zero Go.wp_at_succ
end
/- Division of polynomials. -/
section
open Go.RowKit
set_option linter.unusedVariables false

/-- What a division lowers. -/
def meas (l : List Nat) : Nat := if l.getD 0 0 = 0 then 0 else l.length

section
variable {p m : Nat}
theorem scale_in (h : IsGF p m) {c : Nat} {l : List Nat} (hl : AllIn m l) : AllIn m (scaleBy p m c l) := by
  intro x hx
  obtain ⟨y, hy, rfl⟩ := List.mem_map.1 hx
  exact gm_lt h (hl y hy) c
theorem shiftl_in {l : List Nat} (hl : AllIn m l) (d : Nat) : AllIn m (shiftl l d) := by
  intro x hx
  rcases List.mem_append.1 hx with h1 | h1
  · exact hl x h1
  · rw [(List.mem_replicate.1 h1).2]; exact Nat.two_pow_pos m
theorem mono_in (h : IsGF p m) {c : Nat} (hc : c < 2 ^ m) (d : Nat) : AllIn m (monoL c d) := by
  intro x hx
  rcases List.mem_cons.1 hx with h1 | h1
  · rw [h1]; exact hc
  · rw [(List.mem_replicate.1 h1).2]; exact Nat.two_pow_pos m
theorem getD_append0 (a b : List Nat) (h : 1 ≤ a.length) : (a ++ b).getD 0 0 = a.getD 0 0 := by
  rw [List.getD, List.getElem?_append_left (by omega), List.getD]
theorem scale_get (c : Nat) (l : List Nat) (i : Nat) (hi : i < l.length) : (scaleBy p m c l).getD i 0 = gm p m (l.getD i 0) c := by
  simp [scaleBy, List.getD, List.getElem?_eq_getElem hi]
theorem tidy_lt {l : List Nat} (h2 : 2 ≤ l.length) (h0 : l.getD 0 0 = 0) : (tidy l).length < l.length := by
  match l, h2 with
  | 0 :: b :: l, _ =>
    have := (tidy_cases (b :: l)).2.2.2 (by simp)
    simp only [tidy, List.length_cons] at *
    omega
  | (a + 1) :: b :: l, _ => simp at h0

theorem div_term (h : IsGF p m) {r d : List Nat} (hd1 : 1 ≤ d.length) (hr0 : r.getD 0 0 ≠ 0) (hd0 : d.getD 0 0 ≠ 0) (hle : d.length ≤ r.length) (hAr : AllIn m r) (hAd : AllIn m d) :
    tidy (shiftl (scaleBy p m (gm p m (r.getD 0 0) (inv p m (d.getD 0 0))) d) (r.length - d.length)) = shiftl (scaleBy p m (gm p m (r.getD 0 0) (inv p m (d.getD 0 0))) d) (r.length - d.length) ∧
    (shiftl (scaleBy p m (gm p m (r.getD 0 0) (inv p m (d.getD 0 0))) d) (r.length - d.length)).length = r.length ∧
    (shiftl (scaleBy p m (gm p m (r.getD 0 0) (inv p m (d.getD 0 0))) d) (r.length - d.length)).getD 0 0 = r.getD 0 0 := by
  have hlr := getD_lt h hAr 0
  have hld := getD_lt h hAd 0
  have hi := inv_lt h (d.getD 0 0)
  have e0 : (shiftl (scaleBy p m (gm p m (r.getD 0 0) (inv p m (d.getD 0 0))) d) (r.length - d.length)).getD 0 0 = r.getD 0 0 := by
    rw [shiftl, getD_append0 _ _ (by rw [scale_len]; exact hd1), scale_get _ _ _ (by omega), gm_comm h hld (gm_lt h hlr _), gm_assoc h hlr hi hld, gm_comm h hi hld, gm_inv h (by omega) hld, gm_one h]
  have e1 : (shiftl (scaleBy p m (gm p m (r.getD 0 0) (inv p m (d.getD 0 0))) d) (r.length - d.length)).length = r.length := by rw [shiftl_len, scale_len]; omega
  exact ⟨tidy_first (.inl (by rw [e0]; exact hr0)) (by rw [e1]; omega), e1, e0⟩
theorem addL_same {a b : List Nat} (h : a.length = b.length) (h1 : 1 ≤ a.length) : (addL a b).getD 0 0 = a.getD 0 0 ^^^ b.getD 0 0 := by
  unfold addL
  rw [if_neg (by omega), addSL_high (by omega) 0 (by omega) (by omega), Nat.zero_sub]
theorem meas_lt {r t : List Nat} (hr0 : r.getD 0 0 ≠ 0) (hl : t.length = r.length) (h1 : 1 ≤ r.length) (h0 : t.getD 0 0 = r.getD 0 0) : meas (tidy (addL r t)) < meas r ∧ (tidy (addL r t)).length ≤ r.length := by
  have e0 : (addL r t).getD 0 0 = 0 := by rw [addL_same hl.symm h1, h0, Nat.xor_self]
  have el : (addL r t).length = r.length := by rw [addL_len, hl]; omega
  have hm : meas r = r.length := by unfold meas; rw [if_neg hr0]
  rw [hm]
  rcases (by omega : r.length = 1 ∨ 2 ≤ r.length) with h2 | h2
  · have : addL r t = [0] := by
      match addL r t, el.trans h2, e0 with
      | [x], _, h => simp at h; rw [h]
    rw [this, show tidy [0] = [0] from rfl]
    exact ⟨by unfold meas; simp; omega, by simp; omega⟩
  · have h3 := tidy_lt (l := addL r t) (by omega) e0
    refine ⟨?_, by omega⟩
    unfold meas
    split <;> omega
end

/-- What holds of a polynomial on the way: its coefficients have no zeros ahead, they are elements, and there are at most so many. -/
def Good (m n : Nat) (l : List Nat) : Prop := tidy l = l ∧ AllIn m l ∧ 1 ≤ l.length ∧ l.length ≤ n

theorem good_tidy {p m : Nat} (h : IsGF p m) {n : Nat} {l : List Nat} (hl : AllIn m l) (h1 : 1 ≤ l.length) (hn : l.length ≤ n) : Good m n (tidy l) :=
  ⟨tidy_tidy l, tidy_in h hl, (tidy_cases l).1, tidy_len_le h1 hn⟩
theorem Good.mono {m n n' : Nat} {l : List Nat} (h : Good m n l) (hn : n ≤ n') : Good m n' l := ⟨h.1, h.2.1, h.2.2.1, Nat.le_trans h.2.2.2 hn⟩
theorem good_add {p m : Nat} (h : IsGF p m) {n : Nat} {a b : List Nat} (ha : Good m n a) (hb : Good m n b) : Good m n (tidy (addL a b)) :=
  good_tidy h (addL_in h ha.2.1 hb.2.1) (by rw [addL_len]; have := ha.2.2.1; omega) (by rw [addL_len]; have := ha.2.2.2; have := hb.2.2.2; omega)
theorem good_zero {p m : Nat} (h : IsGF p m) : Good m 1 [0] := ⟨rfl, fun x hx => by rw [List.mem_singleton.1 hx]; exact Nat.two_pow_pos m, by simp, by simp⟩

attribute [local go_sem ↓] Go.wp_at_zero Go.wp_at_succ
end
/- The generator of a code, by the package's encoder. -/
section
open Go.RowKit
set_option linter.unusedVariables false

section
variable {p m : Nat}
theorem rowTo_get0 (x : Nat) (b : List Nat) (i : Nat) (out : List Nat) (hi : 1 ≤ i) : ∀ k, (rowTo p m x b i out k).getD 0 0 = out.getD 0 0
  | 0 => rfl
  | k + 1 => by
    rw [rowTo, List.getD, List.getElem?_set_ne (by omega)]
    exact rowTo_get0 x b i out hi k
theorem rowTo_head (x : Nat) (b : List Nat) (out : List Nat) (ho : 1 ≤ out.length) : ∀ k, (rowTo p m x b 0 out (k + 1)).getD 0 0 = out.getD 0 0 ^^^ gm p m x (b.getD 0 0)
  | 0 => by simp [rowTo, List.getD, List.getElem?_set_self (show 0 < out.length by omega)]
  | k + 1 => by
    rw [rowTo, List.getD, List.getElem?_set_ne (by omega)]
    exact rowTo_head x b out ho k
theorem prod_head (a b : List Nat) (ha : 1 ≤ a.length) (hb : 1 ≤ b.length) : (prodL p m a b).getD 0 0 = gm p m (a.getD 0 0) (b.getD 0 0) := by
  have h1 : ∀ i, (prodTo p m a b (i + 1)).getD 0 0 = gm p m (a.getD 0 0) (b.getD 0 0) := by
    intro i
    induction i with
    | zero =>
      rw [prodTo]
      have := rowTo_head (p := p) (m := m) (a.getD 0 0) b (prodTo p m a b 0) (by rw [prodTo_len]; omega) (b.length - 1)
      rw [show b.length - 1 + 1 = b.length from by omega] at this
      rw [this]
      have h0 : (prodTo p m a b 0).getD 0 0 = 0 := by
        simp only [prodTo, List.getD, List.getElem?_replicate]
        split <;> rfl
      rw [h0, Nat.zero_xor]
    | succ i ih =>
      rw [prodTo, rowTo_get0 _ _ _ _ (by omega)]
      exact ih
  rw [prodL, show a.length = (a.length - 1) + 1 from by omega]
  exact h1 _
theorem prodL_len (a b : List Nat) : (prodL p m a b).length = a.length + b.length - 1 := prodTo_len a b _
theorem prodL_in (h : IsGF p m) {a b : List Nat} (ha : AllIn m a) (hb : AllIn m b) : AllIn m (prodL p m a b) := prodTo_in h ha hb _
end

theorem grown_setCell (w : World) (p : Addr) (v : Value) : w.grownBy (w.setCell p v) (some p.block) :=
  ⟨((Below.refl p.block w).setCell (Nat.le_refl _) v).os, ((Below.refl p.block w).setCell (Nat.le_refl _) v).tape, ((Below.refl p.block w).setCell (Nat.le_refl _) v).output, by simp, fun k hk hne => Below.heap_setCell w p v k (fun e => hne (by rw [e]))⟩

attribute [local go_sem ↓] Go.wp_at_zero Go.wp_at_succ
end
/- The package's encoder: it refuses no words and no data, and nothing else. -/
section
open Go.RowKit
set_option linter.unusedVariables false

/-- A slice of n elements can be read: each is one cell. -/
def Rdy (w : World) (A : Option Addr) (n : Nat) : Prop := ∃ xs, Rd w A n xs ∧ ∀ u ∈ xs, u.oneCell' = true
theorem Rdy.set {w : World} {A : Option Addr} {n : Nat} (h : Rdy w A n) (p : Addr) (v : Value) (hv : v.oneCell' = true) : Rdy (w.setCell p v) A n := by
  obtain ⟨xs, hR, h1⟩ := h
  rcases Nat.eq_zero_or_pos n with h0 | h0
  · subst h0
    have e := List.eq_nil_of_length_eq_zero hR.1
    subst e
    exact ⟨[], ⟨rfl, fun h => absurd h (by omega)⟩, fun u hu => by simp at hu⟩
  obtain ⟨b, o, rfl, hb, hc⟩ := hR.2 h0
  have hl := hR.1
  have key : ∀ k, k < n → ∃ u, (w.setCell p v).cell? ⟨b, o + k, none⟩ = some u ∧ u.oneCell' = true := by
    intro k hk
    have hck := hc k (by omega)
    by_cases e : p = ⟨b, o + k, none⟩
    · exact ⟨v, by rw [← e] at hck ⊢; exact World.cell?_setCell_same w p v hck, hv⟩
    · exact ⟨xs[k], by rw [World.cell?_setCell_other w p _ v e]; exact hck, h1 _ (List.getElem_mem _)⟩
  refine ⟨(List.range n).map (fun k => ((w.setCell p v).cell? ⟨b, o + k, none⟩).getD undef), ⟨by simp, fun _ => ⟨b, o, rfl, by simpa using hb, fun k hk => ?_⟩⟩, fun u hu => ?_⟩
  · simp only [List.length_map, List.length_range] at hk
    obtain ⟨u, hu, _⟩ := key k hk
    simp [hu]
  · obtain ⟨k, hk, rfl⟩ := List.mem_map.1 hu
    obtain ⟨u, hu, h2⟩ := key k (by simpa using hk)
    rw [hu]
    exact h2
theorem Own.arr {w : World} {B : Nat} {e : TypeId} {v : Value} {xs : List Value} (h : Own w B e v xs) (h1 : 1 ≤ xs.length) :
    ∃ tb c cur, v = .slice (some ⟨tb, 0, none⟩) xs.length c ∧ B ≤ tb ∧ Arr w tb e cur ∧ xs.length ≤ cur.length ∧ xs.length ≤ c ∧ Rd w (some ⟨tb, 0, none⟩) xs.length xs := by
  obtain ⟨A, c, hv, hR, hc⟩ := h.form
  rcases h.2 with ⟨rfl, hx⟩ | ⟨g, cap, cur, rfl, hg, hh, hnc, _, hcs, ht⟩
  · omega
  · injection hv with e1 e2 e3
    subst e1
    exact ⟨g, cap, cur.toList, rfl, hg, by unfold Arr; rw [Array.toArray_toList]; exact hh, by have := Array.length_toList (xs := cur); omega, hnc, hR⟩

/-- A list, and true. -/
def SomeList (w : World) (e : Ending) (w' : World) : Prop := ∃ v, e = .returned (.tuple #[v, .bool true]) ∧ Below w.heap.size w w'

end
/- What polynomials are worth at an element: sums, products, powers of the unknown. Plain Lean. -/
section
set_option linter.unusedVariables false

section
variable {p m : Nat}
theorem horn_congr {x : Nat} {l k : List Nat} : ∀ n, (∀ i, i < n → l.getD i 0 = k.getD i 0) → hornTo p m x l n = hornTo p m x k n
  | 0, _ => rfl
  | n + 1, h => by
    show gm p m x (hornTo p m x l n) ^^^ l.getD n 0 = gm p m x (hornTo p m x k n) ^^^ k.getD n 0
    rw [horn_congr n (fun i hi => h i (by omega)), h n (by omega)]
theorem val_snoc (x : Nat) (l : List Nat) (a : Nat) : valAt p m x (l ++ [a]) = gm p m x (valAt p m x l) ^^^ a := by
  unfold valAt
  rw [List.length_append]
  show gm p m x (hornTo p m x (l ++ [a]) l.length) ^^^ (l ++ [a]).getD l.length 0 = _
  rw [horn_congr (k := l) l.length (fun i hi => by rw [List.getD, List.getElem?_append_left hi, List.getD])]
  congr 1
  simp [List.getD]
theorem val_nil (x : Nat) : valAt p m x [] = 0 := rfl
theorem val_one (x a : Nat) : valAt p m x [a] = a := by
  have := val_snoc (p := p) (m := m) x [] a
  rw [List.nil_append, val_nil, gm_zero, Nat.zero_xor] at this
  exact this
theorem val_lt (h : IsGF p m) {x : Nat} (hx : x < 2 ^ m) {l : List Nat} (hl : AllIn m l) : valAt p m x l < 2 ^ m := hornTo_lt h hl hx _
theorem pw_succ' (h : IsGF p m) {x : Nat} (hx : x < 2 ^ m) (t : Nat) : powTo p m x (t + 1) = gm p m x (powTo p m x t) := by
  show gm p m (powTo p m x t) x = _
  rw [gm_comm h (powTo_lt h t) hx]
theorem allIn_app {a b : List Nat} (ha : AllIn m a) (hb : AllIn m b) : AllIn m (a ++ b) := fun x hx => (List.mem_append.1 hx).elim (ha x) (hb x)
theorem val_app (h : IsGF p m) {x : Nat} (hx : x < 2 ^ m) {a : List Nat} (ha : AllIn m a) : ∀ n (b : List Nat), b.length = n → AllIn m b → valAt p m x (a ++ b) = gm p m (valAt p m x a) (powTo p m x n) ^^^ valAt p m x b
  | 0, b, hb, _ => by
    rw [List.eq_nil_of_length_eq_zero hb, List.append_nil, val_nil, Nat.xor_zero]
    exact (gm_one h _).symm
  | n + 1, b, hb, hB => by
    obtain ⟨c, y, rfl⟩ : ∃ c y, b = c ++ [y] := ⟨b.dropLast, b.getLast (by intro e; rw [e] at hb; simp at hb), (List.dropLast_concat_getLast (by intro e; rw [e] at hb; simp at hb)).symm⟩
    have hc : AllIn m c := fun z hz => hB z (List.mem_append_left _ hz)
    rw [← List.append_assoc, val_snoc, val_app h hx ha n c (by simpa using hb) hc, val_snoc, gm_right h hx, Nat.xor_assoc, pw_succ' h hx]
    congr 1
    have hv := val_lt h hx ha
    have hp := powTo_lt h (x := x) n
    rw [← gm_assoc h hx hv hp, gm_comm h hx hv, gm_assoc h hv hx hp]
theorem val_cons (h : IsGF p m) {x : Nat} (hx : x < 2 ^ m) {a : Nat} {l : List Nat} (ha : a < 2 ^ m) (hl : AllIn m l) : valAt p m x (a :: l) = gm p m a (powTo p m x l.length) ^^^ valAt p m x l := by
  have := val_app h hx (a := [a]) (fun z hz => by rw [List.mem_singleton.1 hz]; exact ha) l.length l rfl hl
  rw [val_one] at this
  exact this
theorem allIn_cons {a : Nat} {l : List Nat} (h : AllIn m (a :: l)) : a < 2 ^ m ∧ AllIn m l := ⟨h a (by simp), fun x hx => h x (by simp [hx])⟩
theorem val_tidy (h : IsGF p m) {x : Nat} (hx : x < 2 ^ m) : ∀ l : List Nat, AllIn m l → valAt p m x (tidy l) = valAt p m x l
  | [], _ => val_one x 0
  | [a], _ => rfl
  | 0 :: b :: l, hl => by
    obtain ⟨h1, h2⟩ := allIn_cons hl
    rw [val_cons h hx h1 h2, zero_gm, Nat.zero_xor]
    exact val_tidy h hx (b :: l) h2
  | (a + 1) :: b :: l, _ => rfl
theorem val_reps (h : IsGF p m) {x : Nat} (hx : x < 2 ^ m) : ∀ d, valAt p m x (List.replicate d 0) = 0
  | 0 => rfl
  | d + 1 => by
    rw [List.replicate_succ, val_cons h hx (Nat.two_pow_pos m) (fun y hy => by rw [(List.mem_replicate.1 hy).2]; exact Nat.two_pow_pos m), zero_gm, Nat.zero_xor]
    exact val_reps h hx d
theorem reps_in (d : Nat) : AllIn m (List.replicate d 0) := fun y hy => by rw [(List.mem_replicate.1 hy).2]; exact Nat.two_pow_pos m
theorem val_shiftl (h : IsGF p m) {x : Nat} (hx : x < 2 ^ m) {l : List Nat} (hl : AllIn m l) (d : Nat) : valAt p m x (shiftl l d) = gm p m (valAt p m x l) (powTo p m x d) := by
  rw [shiftl, val_app h hx hl d _ (by simp) (reps_in d), val_reps h hx, Nat.xor_zero]
theorem val_scale (h : IsGF p m) {x c : Nat} (hx : x < 2 ^ m) (hc : c < 2 ^ m) : ∀ l : List Nat, AllIn m l → valAt p m x (scaleBy p m c l) = gm p m (valAt p m x l) c
  | [], _ => (zero_gm c).symm
  | a :: l, hl => by
    obtain ⟨h1, h2⟩ := allIn_cons hl
    show valAt p m x (gm p m a c :: scaleBy p m c l) = _
    have hp := powTo_lt h (x := x) l.length
    rw [val_cons h hx (gm_lt h h1 c) (scale_in h h2), scale_len, val_scale h hx hc l h2, val_cons h hx h1 h2, gm_left h (gm_lt h h1 _) (val_lt h hx h2)]
    congr 1
    rw [gm_assoc h h1 hc hp, gm_comm h hc hp, ← gm_assoc h h1 hp hc]
theorem val_zip (h : IsGF p m) {x : Nat} (hx : x < 2 ^ m) : ∀ a b : List Nat, a.length = b.length → AllIn m a → AllIn m b → valAt p m x (List.zipWith (· ^^^ ·) a b) = valAt p m x a ^^^ valAt p m x b
  | [], [], _, _, _ => by show (0 : Nat) = 0 ^^^ 0; decide
  | a :: l, b :: k, hl, ha, hb => by
    obtain ⟨a1, a2⟩ := allIn_cons ha
    obtain ⟨b1, b2⟩ := allIn_cons hb
    have hlk : l.length = k.length := by simpa using hl
    have hz : AllIn m (List.zipWith (· ^^^ ·) l k) := fun z hz => by
      obtain ⟨i, hi, rfl⟩ := List.getElem_of_mem hz
      rw [List.getElem_zipWith]
      exact Nat.xor_lt_two_pow (a2 _ (List.getElem_mem _)) (b2 _ (List.getElem_mem _))
    rw [List.zipWith_cons_cons, val_cons h hx (Nat.xor_lt_two_pow a1 b1) hz, val_zip h hx l k hlk a2 b2, val_cons h hx a1 a2, val_cons h hx b1 b2, gm_left h a1 b1]
    have e : (List.zipWith (· ^^^ ·) l k).length = l.length := by simp [hlk]
    rw [e, ← hlk]
    generalize gm p m a (powTo p m x l.length) = u1
    generalize gm p m b (powTo p m x l.length) = u2
    rw [Nat.xor_assoc, Nat.xor_assoc]
    congr 1
    rw [xor_lc]
theorem val_addSL (h : IsGF p m) {x : Nat} (hx : x < 2 ^ m) {s l : List Nat} (hle : s.length ≤ l.length) (hs : AllIn m s) (hl : AllIn m l) : valAt p m x (addSL s l) = valAt p m x s ^^^ valAt p m x l := by
  unfold addSL
  rw [val_zip h hx _ _ (by simp; omega) (allIn_app (reps_in _) hs) hl, val_app h hx (reps_in _) _ _ rfl hs, val_reps h hx, zero_gm, Nat.zero_xor]
theorem val_addL (h : IsGF p m) {x : Nat} (hx : x < 2 ^ m) {a b : List Nat} (ha : AllIn m a) (hb : AllIn m b) : valAt p m x (addL a b) = valAt p m x a ^^^ valAt p m x b := by
  unfold addL
  split
  · rw [val_addSL h hx (by omega) hb ha, Nat.xor_comm]
  · exact val_addSL h hx (by omega) ha hb
theorem val_set (h : IsGF p m) {x : Nat} (hx : x < 2 ^ m) {l : List Nat} (hl : AllIn m l) {k v : Nat} (hk : k < l.length) (hv : v < 2 ^ m) : valAt p m x (l.set k (l.getD k 0 ^^^ v)) = valAt p m x l ^^^ gm p m v (powTo p m x (l.length - 1 - k)) := by
  have hT : AllIn m (l.take k) := fun z hz => hl z (List.mem_of_mem_take hz)
  have hD : AllIn m (l.drop (k + 1)) := fun z hz => hl z (List.mem_of_mem_drop hz)
  have hy := getD_lt h hl k
  have e1 : l.set k (l.getD k 0 ^^^ v) = l.take k ++ (l.getD k 0 ^^^ v) :: l.drop (k + 1) := by rw [List.set_eq_take_append_cons_drop, if_pos hk]
  have e2 : l = l.take k ++ l.getD k 0 :: l.drop (k + 1) := by
    conv => lhs; rw [← List.take_append_drop k l, List.drop_eq_getElem_cons hk]
    simp [List.getD, List.getElem?_eq_getElem hk]
  have hxv : l.getD k 0 ^^^ v < 2 ^ m := Nat.xor_lt_two_pow hy hv
  have hcons : ∀ z, z < 2 ^ m → AllIn m (z :: l.drop (k + 1)) := fun z hz u hu => by
    rcases List.mem_cons.1 hu with e | e
    · rw [e]; exact hz
    · exact hD u e
  have hlen : (l.drop (k + 1)).length = l.length - 1 - k := by rw [List.length_drop]; omega
  rw [e1]
  conv => rhs; lhs; rw [e2]
  rw [val_app h hx hT _ _ rfl (hcons _ hxv), val_app h hx hT _ _ rfl (hcons _ hy), val_cons h hx hxv hD, val_cons h hx hy hD, gm_left h hy hv, hlen]
  simp only [List.length_cons]
  generalize gm p m (valAt p m x (List.take k l)) _ = u0
  generalize gm p m (l.getD k 0) _ = u1
  generalize gm p m v _ = u2
  generalize valAt p m x (List.drop (k + 1) l) = u3
  simp only [Nat.xor_assoc]
  congr 2
  rw [Nat.xor_comm]
theorem val_rowTo (h : IsGF p m) {x : Nat} (hx : x < 2 ^ m) {y : Nat} (hy : y < 2 ^ m) {b : List Nat} (hb : AllIn m b) (i : Nat) {out : List Nat} (ho : AllIn m out) : ∀ k, k ≤ b.length → i + k ≤ out.length →
    valAt p m x (rowTo p m y b i out k) = valAt p m x out ^^^ gm p m y (gm p m (valAt p m x (b.take k)) (powTo p m x (out.length - i - k)))
  | 0, _, _ => by
    rw [List.take_zero, val_nil, zero_gm, gm_zero, Nat.xor_zero]
    rfl
  | k + 1, hk, hik => by
    have ih := val_rowTo h hx hy hb i ho k (by omega) (by omega)
    have hbk := getD_lt h hb k
    have hT : AllIn m (b.take k) := fun z hz => hb z (List.mem_of_mem_take hz)
    have hV := val_lt h hx hT
    have hp := powTo_lt h (p := p) (m := m) (x := x) (out.length - i - (k + 1))
    rw [rowTo, val_set h hx (rowTo_in h hy hb i ho k) (by rw [rowTo_len]; omega) (gm_lt h hy _), ih, rowTo_len, Nat.xor_assoc]
    congr 1
    have e3 : b.take (k + 1) = b.take k ++ [b.getD k 0] := by
      rw [List.take_succ_eq_append_getElem (by omega)]
      simp [List.getD, List.getElem?_eq_getElem (show k < b.length by omega)]
    rw [e3, val_snoc, show out.length - 1 - (i + k) = out.length - i - (k + 1) from by omega, show out.length - i - k = (out.length - i - (k + 1)) + 1 from by omega, pw_succ' h hx]
    generalize out.length - i - (k + 1) = t at *
    rw [gm_left h (gm_lt h hx _) hbk, gm_right h hy, gm_assoc h hy hbk hp]
    congr 2
    rw [gm_comm h hx hV, gm_assoc h hV hx hp]
theorem val_prodTo (h : IsGF p m) {x : Nat} (hx : x < 2 ^ m) {a b : List Nat} (ha : AllIn m a) (hb : AllIn m b) (hb1 : 1 ≤ b.length) : ∀ i, i ≤ a.length →
    valAt p m x (prodTo p m a b i) = gm p m (gm p m (valAt p m x (a.take i)) (powTo p m x (a.length - i))) (valAt p m x b)
  | 0, _ => by
    rw [List.take_zero, val_nil, zero_gm, zero_gm]
    exact val_reps h hx _
  | i + 1, hi => by
    have ih := val_prodTo h hx ha hb hb1 i (by omega)
    have hai := getD_lt h ha i
    have hT : AllIn m (a.take i) := fun z hz => ha z (List.mem_of_mem_take hz)
    have hV := val_lt h hx hT
    have hB := val_lt h hx hb
    have hp := powTo_lt h (p := p) (m := m) (x := x) (a.length - (i + 1))
    rw [prodTo, val_rowTo h hx hai hb i (prodTo_in h ha hb i) b.length (Nat.le_refl _) (by rw [prodTo_len]; omega), ih, prodTo_len, List.take_length]
    have e3 : a.take (i + 1) = a.take i ++ [a.getD i 0] := by
      rw [List.take_succ_eq_append_getElem (by omega)]
      simp [List.getD, List.getElem?_eq_getElem (show i < a.length by omega)]
    rw [e3, val_snoc, show a.length + b.length - 1 - i - b.length = a.length - (i + 1) from by omega, show a.length - i = (a.length - (i + 1)) + 1 from by omega, pw_succ' h hx]
    generalize a.length - (i + 1) = t at *
    have hxp := gm_lt h hx (powTo p m x t)
    rw [gm_left h (gm_lt h hx _) hai, gm_left h (gm_lt h (gm_lt h hx _) _) (gm_lt h hai _)]
    congr 1
    · congr 1
      rw [gm_comm h hx hV, gm_assoc h hV hx hp]
    · rw [gm_comm h hB hp, ← gm_assoc h hai hp hB]
theorem val_prod (h : IsGF p m) {x : Nat} (hx : x < 2 ^ m) {a b : List Nat} (ha : AllIn m a) (hb : AllIn m b) (hb1 : 1 ≤ b.length) :
    valAt p m x (prodL p m a b) = gm p m (valAt p m x a) (valAt p m x b) := by
  rw [prodL, val_prodTo h hx ha hb hb1 a.length (Nat.le_refl _), List.take_length, Nat.sub_self]
  show gm p m (gm p m _ 1) _ = _
  rw [gm_one h]
end
end
/- The reference's powers, inverses, sums and zeros. -/
section
open Go.RowKit
set_option linter.unusedVariables false

section
variable {p m : Nat}
theorem two_lt (h : IsGF p m) : 2 < 2 ^ m := Nat.lt_of_lt_of_le (by decide) (Nat.pow_le_pow_right (n := 2) (by omega) h.pos)
theorem ex_one (h : IsGF p m) : ex p m 1 = 2 := by
  show mx p m 1 = 2
  unfold mx
  rw [if_neg (by have := two_lt h; omega)]
theorem pow2_ex (h : IsGF p m) : ∀ n, powTo p m 2 n = ex p m n
  | 0 => rfl
  | n + 1 => by
    show gm p m (powTo p m 2 n) 2 = _
    rw [pow2_ex h n, ← ex_one h, gm_exex h]
theorem inv_unique (h : IsGF p m) {a b : Nat} (h0 : 0 < a) (ha : a < 2 ^ m) (hb : b < 2 ^ m) (he : gm p m a b = 1) : b = inv p m a := by
  have h2 : gm p m a (b ^^^ inv p m a) = 0 := by rw [gm_right h ha, he, gm_inv h h0 ha, Nat.xor_self]
  rcases gm_eq_zero h ha (Nat.xor_lt_two_pow hb (inv_lt h a)) h2 with h3 | h3
  · omega
  · exact xor_zero_iff h3
end

set_option maxHeartbeats 1000000 in
theorem rsPower (p m N base n : Nat) (w : World) (h : IsGF p m) (hN : Hid (N = 2 ^ m)) (hn : n ≤ 1000) :
    Calls Tryz.prog 82 #[fieldVal p N base, .int .i64 n] w (ValOut (.int .i64 (ex p m n : Nat)) w) := by
  have hN1 : N ≤ 4096 := by rw [hN.out]; exact Nat.pow_le_pow_right (n := 2) (by omega) h.small
  have h2 : 2 < N := by rw [hN.out]; exact two_lt h
  have HE := hid (pow2_ex h n)
  have H := hid h
  have A0 := Arr.of_new w 72 #[.int .i64 p, .int .i64 N, .int .i64 base]
  have B0 : Below w.heap.size w (w.alloc (.cells #[.int .i64 p, .int .i64 N, .int .i64 base] 72)) := (Below.refl _ _).alloc (Nat.le_refl _) _
  unfold fieldVal
  go_enter Tryz.func82, Tryz.ntmps82
  go_wp2
  generalize w.alloc (.cells #[.int .i64 p, .int .i64 N, .int .i64 base] 72) = w1 at *
  go_loopw [5, 6] (fun out i wr => ∃ k : Nat, k ≤ n ∧ i = .int .i64 k ∧ out = .int .i64 (powTo p m 2 k : Nat) ∧ Arr wr w.heap.size 72 [.int .i64 p, .int .i64 N, .int .i64 base] ∧ Below w.heap.size w wr) (fun _ i _ => n - (intOf i).toNat)
  case atStart => exact ⟨0, by omega, rfl, rfl, A0, B0⟩
  case round =>
    clear A0 B0
    obtain ⟨k, hk, rfl, rfl, hA, hB⟩ := hrel
    by_cases hlt : k < n
    · have hlt' : (k : Int) < (n : Int) := by omega
      have hp := powTo_lt H.out (p := p) (m := m) (x := 2) k
      rw [← hN.out] at hp
      have ct := fun W => rsTimes p m N base (powTo p m 2 k) 2 W H.out hN hp h2
      have HS := hid (show powTo p m 2 (k + 1) = gm p m (powTo p m 2 k) 2 from rfl)
      have d0 := hA.cell? 0
      have d1 := hA.cell? 1
      have d2 := hA.cell? 2
      try simp only at d0 d1 d2
      generalize gm p m (powTo p m 2 k) 2 = s at *
      generalize powTo p m 2 k = y at *
      have HA := hid hA
      have HB := hid hB
      unfold fieldVal at *
      clear hA hB
      go_wp2_with fail
      refine (ct _).mono ?_
      rintro e w5 ⟨rfl, hb5⟩
      go_wp2_with fail
      go_roundw
      case rel => exact ⟨k + 1, by omega, by go_num, by rw [HS.out], HA.out.below hb5 HA.out.lt, HB.out.trans (hb5.mono HB.out.size)⟩
      case measure => simp [intOf]; omega
    · obtain rfl : k = n := by omega
      rw [HE.out]
      have HB := hid hB
      clear hA hB
      go_wp2_with fail
      go_ret
      exact ⟨rfl, HB.out⟩

set_option maxHeartbeats 1000000 in
theorem rsInverse (p m N base a : Nat) (w : World) (h : IsGF p m) (hN : Hid (N = 2 ^ m)) (h0 : 0 < a) (ha : a < N) :
    Calls Tryz.prog 77 #[fieldVal p N base, .int .i64 a] w (ValOut (.int .i64 (inv p m a : Nat)) w) := by
  have hN1 : N ≤ 4096 := by rw [hN.out]; exact Nat.pow_le_pow_right (n := 2) (by omega) h.small
  have hi1 := inv_lt h a
  rw [← hN.out] at hi1
  have hi2 := inv_pos h a
  have HU := hid (fun b hb he => inv_unique h h0 (by rw [← hN.out]; exact ha) (b := b) hb he)
  have HI := hid (gm_inv h h0 (by rw [← hN.out]; exact ha))
  have H := hid h
  have A0 := Arr.of_new w 72 #[.int .i64 p, .int .i64 N, .int .i64 base]
  have B0 : Below w.heap.size w (w.alloc (.cells #[.int .i64 p, .int .i64 N, .int .i64 base] 72)) := (Below.refl _ _).alloc (Nat.le_refl _) _
  generalize inv p m a = v at *
  clear h
  unfold fieldVal
  go_enter Tryz.func77, Tryz.ntmps77
  go_wp2
  generalize w.alloc (.cells #[.int .i64 p, .int .i64 N, .int .i64 base] 72) = w1 at *
  go_loopw [5] (fun i wr => ∃ k : Nat, 1 ≤ k ∧ k ≤ v ∧ i = .int .i64 k ∧ Arr wr w.heap.size 72 [.int .i64 p, .int .i64 N, .int .i64 base] ∧ Below w.heap.size w wr) (fun i _ => v - (intOf i).toNat)
  case atStart => exact ⟨1, by omega, by omega, rfl, A0, B0⟩
  case round =>
    clear A0 B0
    obtain ⟨k, hk1, hk, rfl, hA, hB⟩ := hrel
    have hlt' : (k : Int) < (N : Int) := by omega
    have hkN : k < N := by omega
    have ct := fun W => rsTimes p m N base a k W H.out hN ha hkN
    have d0 := hA.cell? 0
    have d1 := hA.cell? 1
    have d2 := hA.cell? 2
    try simp only at d0 d1 d2
    have HA := hid hA
    have HB := hid hB
    unfold fieldVal at *
    clear hA hB
    by_cases he : gm p m a k = 1
    · have hkv : k = v := HU.out k (by rw [← hN.out]; exact hkN) he
      rw [he] at ct
      subst hkv
      go_wp2_with fail
      refine (ct _).mono ?_
      rintro e w5 ⟨rfl, hb5⟩
      have HB5 := hid (HB.out.trans (hb5.mono HB.out.size))
      clear hb5
      go_wp2_with fail
      go_ret
      exact ⟨rfl, HB5.out⟩
    · have hne : k ≠ v := fun e => he (by rw [e]; exact HI.out)
      have hf : ((((gm p m a k : Nat) : Int)) == 1) = false := by rw [beq_eq_false_iff_ne]; omega
      generalize gm p m a k = s at *
      clear he
      go_wp2_with fail
      refine (ct _).mono ?_
      rintro e w5 ⟨rfl, hb5⟩
      go_wp2_with fail
      go_roundw
      case rel => exact ⟨k + 1, by omega, by omega, by go_num, HA.out.below hb5 HA.out.lt, HB.out.trans (hb5.mono HB.out.size)⟩
      case measure => simp [intOf]; omega

theorem rsZeroT (A : Option Addr) (c : Nat) (w : World) (hR : Rd w A 1 (ints [0])) :
    Calls Tryz.prog 78 #[.slice A 1 c] w (SameOut (.bool true) w) := by
  obtain ⟨b, o, rfl, _, hc⟩ := rd_int hR 0 (by omega)
  rw [Nat.add_zero] at hc
  simp only [List.getD_cons_zero, Int.natCast_zero] at hc
  clear hR
  go_enter Tryz.func78, Tryz.ntmps78
  go_wp2
  go_ret
  exact ⟨rfl, rfl⟩
theorem rsZeroF (A : Option Addr) (n c : Nat) (l : List Nat) (w : World) (hR : Rd w A n (ints l)) (hn : 1 ≤ n) (hn2 : n ≤ 100000) (h0 : l.getD 0 0 ≠ 0) :
    Calls Tryz.prog 78 #[.slice A n c] w (SameOut (.bool false) w) := by
  obtain ⟨b, o, rfl, _, hc⟩ := rd_int hR 0 (by omega)
  rw [Nat.add_zero] at hc
  have hz : (((l.getD 0 0 : Nat) : Int) == 0) = false := by rw [beq_eq_false_iff_ne]; omega
  generalize l.getD 0 0 = y at *
  clear hR h0
  by_cases h1 : n = 1
  · subst h1
    go_enter Tryz.func78, Tryz.ntmps78
    go_wp2
    go_ret
    exact ⟨rfl, rfl⟩
  · have h1' : ((n : Int) == 1) = false := by rw [beq_eq_false_iff_ne]; omega
    clear h1
    go_enter Tryz.func78, Tryz.ntmps78
    go_wp2
    go_ret
    exact ⟨rfl, rfl⟩
end
end Go.Proofs.YtliephokeafllaaGreatDoor.Rs
