/- What polynomials are worth at an element: sums, products, powers of the unknown. Plain Lean. -/
import Derived.Test.YtpkmknbmjlnkgaaDivW
namespace Go.Proofs.Ytpkmknbmjlnkgaa
set_option linter.unusedVariables false

section
variable {p m : Nat}
theorem horn_congr {x : Nat} {l k : List Nat} : ∀ n, (∀ i, i < n → l.getD i 0 = k.getD i 0) → hornTo p m x l n = hornTo p m x k n
  | 0, _ => rfl
  | n + 1, h => by
    show gm p m x (hornTo p m x l n) ^^^ l.getD n 0 = gm p m x (hornTo p m x k n) ^^^ k.getD n 0
    rw [horn_congr n (fun i hi => h i (by omega)), h n (by omega)]
theorem val_snoc (x : Nat) (l : List Nat) (a : Nat) : valAt p m x (l ++ [a]) = gm p m x (valAt p m x l) ^^^ a := by
  unfold valAt
  rw [List.length_append]
  show gm p m x (hornTo p m x (l ++ [a]) l.length) ^^^ (l ++ [a]).getD l.length 0 = _
  rw [horn_congr (k := l) l.length (fun i hi => by rw [List.getD, List.getElem?_append_left hi, List.getD])]
  congr 1
  simp [List.getD]
theorem val_nil (x : Nat) : valAt p m x [] = 0 := rfl
theorem val_one (x a : Nat) : valAt p m x [a] = a := by
  have := val_snoc (p := p) (m := m) x [] a
  rw [List.nil_append, val_nil, gm_zero, Nat.zero_xor] at this
  exact this
theorem val_lt (h : IsGF p m) {x : Nat} (hx : x < 2 ^ m) {l : List Nat} (hl : AllIn m l) : valAt p m x l < 2 ^ m := hornTo_lt h hl hx _
theorem pw_succ' (h : IsGF p m) {x : Nat} (hx : x < 2 ^ m) (t : Nat) : powTo p m x (t + 1) = gm p m x (powTo p m x t) := by
  show gm p m (powTo p m x t) x = _
  rw [gm_comm h (powTo_lt h t) hx]
theorem allIn_app {a b : List Nat} (ha : AllIn m a) (hb : AllIn m b) : AllIn m (a ++ b) := fun x hx => (List.mem_append.1 hx).elim (ha x) (hb x)
theorem val_app (h : IsGF p m) {x : Nat} (hx : x < 2 ^ m) {a : List Nat} (ha : AllIn m a) : ∀ n (b : List Nat), b.length = n → AllIn m b → valAt p m x (a ++ b) = gm p m (valAt p m x a) (powTo p m x n) ^^^ valAt p m x b
  | 0, b, hb, _ => by
    rw [List.eq_nil_of_length_eq_zero hb, List.append_nil, val_nil, Nat.xor_zero]
    exact (gm_one h _).symm
  | n + 1, b, hb, hB => by
    obtain ⟨c, y, rfl⟩ : ∃ c y, b = c ++ [y] := ⟨b.dropLast, b.getLast (by intro e; rw [e] at hb; simp at hb), (List.dropLast_concat_getLast (by intro e; rw [e] at hb; simp at hb)).symm⟩
    have hc : AllIn m c := fun z hz => hB z (List.mem_append_left _ hz)
    rw [← List.append_assoc, val_snoc, val_app h hx ha n c (by simpa using hb) hc, val_snoc, gm_right h hx, Nat.xor_assoc, pw_succ' h hx]
    congr 1
    have hv := val_lt h hx ha
    have hp := powTo_lt h (x := x) n
    rw [← gm_assoc h hx hv hp, gm_comm h hx hv, gm_assoc h hv hx hp]
theorem val_cons (h : IsGF p m) {x : Nat} (hx : x < 2 ^ m) {a : Nat} {l : List Nat} (ha : a < 2 ^ m) (hl : AllIn m l) : valAt p m x (a :: l) = gm p m a (powTo p m x l.length) ^^^ valAt p m x l := by
  have := val_app h hx (a := [a]) (fun z hz => by rw [List.mem_singleton.1 hz]; exact ha) l.length l rfl hl
  rw [val_one] at this
  exact this
theorem allIn_cons {a : Nat} {l : List Nat} (h : AllIn m (a :: l)) : a < 2 ^ m ∧ AllIn m l := ⟨h a (by simp), fun x hx => h x (by simp [hx])⟩
theorem val_tidy (h : IsGF p m) {x : Nat} (hx : x < 2 ^ m) : ∀ l : List Nat, AllIn m l → valAt p m x (tidy l) = valAt p m x l
  | [], _ => val_one x 0
  | [a], _ => rfl
  | 0 :: b :: l, hl => by
    obtain ⟨h1, h2⟩ := allIn_cons hl
    rw [val_cons h hx h1 h2, zero_gm, Nat.zero_xor]
    exact val_tidy h hx (b :: l) h2
  | (a + 1) :: b :: l, _ => rfl
theorem val_reps (h : IsGF p m) {x : Nat} (hx : x < 2 ^ m) : ∀ d, valAt p m x (List.replicate d 0) = 0
  | 0 => rfl
  | d + 1 => by
    rw [List.replicate_succ, val_cons h hx (Nat.two_pow_pos m) (fun y hy => by rw [(List.mem_replicate.1 hy).2]; exact Nat.two_pow_pos m), zero_gm, Nat.zero_xor]
    exact val_reps h hx d
theorem reps_in (d : Nat) : AllIn m (List.replicate d 0) := fun y hy => by rw [(List.mem_replicate.1 hy).2]; exact Nat.two_pow_pos m
theorem val_shiftl (h : IsGF p m) {x : Nat} (hx : x < 2 ^ m) {l : List Nat} (hl : AllIn m l) (d : Nat) : valAt p m x (shiftl l d) = gm p m (valAt p m x l) (powTo p m x d) := by
  rw [shiftl, val_app h hx hl d _ (by simp) (reps_in d), val_reps h hx, Nat.xor_zero]
theorem val_scale (h : IsGF p m) {x c : Nat} (hx : x < 2 ^ m) (hc : c < 2 ^ m) : ∀ l : List Nat, AllIn m l → valAt p m x (scaleBy p m c l) = gm p m (valAt p m x l) c
  | [], _ => (zero_gm c).symm
  | a :: l, hl => by
    obtain ⟨h1, h2⟩ := allIn_cons hl
    show valAt p m x (gm p m a c :: scaleBy p m c l) = _
    have hp := powTo_lt h (x := x) l.length
    rw [val_cons h hx (gm_lt h h1 c) (scale_in h h2), scale_len, val_scale h hx hc l h2, val_cons h hx h1 h2, gm_left h (gm_lt h h1 _) (val_lt h hx h2)]
    congr 1
    rw [gm_assoc h h1 hc hp, gm_comm h hc hp, ← gm_assoc h h1 hp hc]
theorem val_zip (h : IsGF p m) {x : Nat} (hx : x < 2 ^ m) : ∀ a b : List Nat, a.length = b.length → AllIn m a → AllIn m b → valAt p m x (List.zipWith (· ^^^ ·) a b) = valAt p m x a ^^^ valAt p m x b
  | [], [], _, _, _ => by show (0 : Nat) = 0 ^^^ 0; decide
  | a :: l, b :: k, hl, ha, hb => by
    obtain ⟨a1, a2⟩ := allIn_cons ha
    obtain ⟨b1, b2⟩ := allIn_cons hb
    have hlk : l.length = k.length := by simpa using hl
    have hz : AllIn m (List.zipWith (· ^^^ ·) l k) := fun z hz => by
      obtain ⟨i, hi, rfl⟩ := List.getElem_of_mem hz
      rw [List.getElem_zipWith]
      exact Nat.xor_lt_two_pow (a2 _ (List.getElem_mem _)) (b2 _ (List.getElem_mem _))
    rw [List.zipWith_cons_cons, val_cons h hx (Nat.xor_lt_two_pow a1 b1) hz, val_zip h hx l k hlk a2 b2, val_cons h hx a1 a2, val_cons h hx b1 b2, gm_left h a1 b1]
    have e : (List.zipWith (· ^^^ ·) l k).length = l.length := by simp [hlk]
    rw [e, ← hlk]
    generalize gm p m a (powTo p m x l.length) = u1
    generalize gm p m b (powTo p m x l.length) = u2
    rw [Nat.xor_assoc, Nat.xor_assoc]
    congr 1
    rw [xor_lc]
theorem val_addSL (h : IsGF p m) {x : Nat} (hx : x < 2 ^ m) {s l : List Nat} (hle : s.length ≤ l.length) (hs : AllIn m s) (hl : AllIn m l) : valAt p m x (addSL s l) = valAt p m x s ^^^ valAt p m x l := by
  unfold addSL
  rw [val_zip h hx _ _ (by simp; omega) (allIn_app (reps_in _) hs) hl, val_app h hx (reps_in _) _ _ rfl hs, val_reps h hx, zero_gm, Nat.zero_xor]
theorem val_addL (h : IsGF p m) {x : Nat} (hx : x < 2 ^ m) {a b : List Nat} (ha : AllIn m a) (hb : AllIn m b) : valAt p m x (addL a b) = valAt p m x a ^^^ valAt p m x b := by
  unfold addL
  split
  · rw [val_addSL h hx (by omega) hb ha, Nat.xor_comm]
  · exact val_addSL h hx (by omega) ha hb
theorem val_set (h : IsGF p m) {x : Nat} (hx : x < 2 ^ m) {l : List Nat} (hl : AllIn m l) {k v : Nat} (hk : k < l.length) (hv : v < 2 ^ m) : valAt p m x (l.set k (l.getD k 0 ^^^ v)) = valAt p m x l ^^^ gm p m v (powTo p m x (l.length - 1 - k)) := by
  have hT : AllIn m (l.take k) := fun z hz => hl z (List.mem_of_mem_take hz)
  have hD : AllIn m (l.drop (k + 1)) := fun z hz => hl z (List.mem_of_mem_drop hz)
  have hy := getD_lt h hl k
  have e1 : l.set k (l.getD k 0 ^^^ v) = l.take k ++ (l.getD k 0 ^^^ v) :: l.drop (k + 1) := by rw [List.set_eq_take_append_cons_drop, if_pos hk]
  have e2 : l = l.take k ++ l.getD k 0 :: l.drop (k + 1) := by
    conv => lhs; rw [← List.take_append_drop k l, List.drop_eq_getElem_cons hk]
    simp [List.getD, List.getElem?_eq_getElem hk]
  have hxv : l.getD k 0 ^^^ v < 2 ^ m := Nat.xor_lt_two_pow hy hv
  have hcons : ∀ z, z < 2 ^ m → AllIn m (z :: l.drop (k + 1)) := fun z hz u hu => by
    rcases List.mem_cons.1 hu with e | e
    · rw [e]; exact hz
    · exact hD u e
  have hlen : (l.drop (k + 1)).length = l.length - 1 - k := by rw [List.length_drop]; omega
  rw [e1]
  conv => rhs; lhs; rw [e2]
  rw [val_app h hx hT _ _ rfl (hcons _ hxv), val_app h hx hT _ _ rfl (hcons _ hy), val_cons h hx hxv hD, val_cons h hx hy hD, gm_left h hy hv, hlen]
  simp only [List.length_cons]
  generalize gm p m (valAt p m x (List.take k l)) _ = u0
  generalize gm p m (l.getD k 0) _ = u1
  generalize gm p m v _ = u2
  generalize valAt p m x (List.drop (k + 1) l) = u3
  simp only [Nat.xor_assoc]
  congr 2
  rw [Nat.xor_comm]
theorem val_rowTo (h : IsGF p m) {x : Nat} (hx : x < 2 ^ m) {y : Nat} (hy : y < 2 ^ m) {b : List Nat} (hb : AllIn m b) (i : Nat) {out : List Nat} (ho : AllIn m out) : ∀ k, k ≤ b.length → i + k ≤ out.length →
    valAt p m x (rowTo p m y b i out k) = valAt p m x out ^^^ gm p m y (gm p m (valAt p m x (b.take k)) (powTo p m x (out.length - i - k)))
  | 0, _, _ => by
    rw [List.take_zero, val_nil, zero_gm, gm_zero, Nat.xor_zero]
    rfl
  | k + 1, hk, hik => by
    have ih := val_rowTo h hx hy hb i ho k (by omega) (by omega)
    have hbk := getD_lt h hb k
    have hT : AllIn m (b.take k) := fun z hz => hb z (List.mem_of_mem_take hz)
    have hV := val_lt h hx hT
    have hp := powTo_lt h (p := p) (m := m) (x := x) (out.length - i - (k + 1))
    rw [rowTo, val_set h hx (rowTo_in h hy hb i ho k) (by rw [rowTo_len]; omega) (gm_lt h hy _), ih, rowTo_len, Nat.xor_assoc]
    congr 1
    have e3 : b.take (k + 1) = b.take k ++ [b.getD k 0] := by
      rw [List.take_succ_eq_append_getElem (by omega)]
      simp [List.getD, List.getElem?_eq_getElem (show k < b.length by omega)]
    rw [e3, val_snoc, show out.length - 1 - (i + k) = out.length - i - (k + 1) from by omega, show out.length - i - k = (out.length - i - (k + 1)) + 1 from by omega, pw_succ' h hx]
    generalize out.length - i - (k + 1) = t at *
    rw [gm_left h (gm_lt h hx _) hbk, gm_right h hy, gm_assoc h hy hbk hp]
    congr 2
    rw [gm_comm h hx hV, gm_assoc h hV hx hp]
theorem val_prodTo (h : IsGF p m) {x : Nat} (hx : x < 2 ^ m) {a b : List Nat} (ha : AllIn m a) (hb : AllIn m b) (hb1 : 1 ≤ b.length) : ∀ i, i ≤ a.length →
    valAt p m x (prodTo p m a b i) = gm p m (gm p m (valAt p m x (a.take i)) (powTo p m x (a.length - i))) (valAt p m x b)
  | 0, _ => by
    rw [List.take_zero, val_nil, zero_gm, zero_gm]
    exact val_reps h hx _
  | i + 1, hi => by
    have ih := val_prodTo h hx ha hb hb1 i (by omega)
    have hai := getD_lt h ha i
    have hT : AllIn m (a.take i) := fun z hz => ha z (List.mem_of_mem_take hz)
    have hV := val_lt h hx hT
    have hB := val_lt h hx hb
    have hp := powTo_lt h (p := p) (m := m) (x := x) (a.length - (i + 1))
    rw [prodTo, val_rowTo h hx hai hb i (prodTo_in h ha hb i) b.length (Nat.le_refl _) (by rw [prodTo_len]; omega), ih, prodTo_len, List.take_length]
    have e3 : a.take (i + 1) = a.take i ++ [a.getD i 0] := by
      rw [List.take_succ_eq_append_getElem (by omega)]
      simp [List.getD, List.getElem?_eq_getElem (show i < a.length by omega)]
    rw [e3, val_snoc, show a.length + b.length - 1 - i - b.length = a.length - (i + 1) from by omega, show a.length - i = (a.length - (i + 1)) + 1 from by omega, pw_succ' h hx]
    generalize a.length - (i + 1) = t at *
    have hxp := gm_lt h hx (powTo p m x t)
    rw [gm_left h (gm_lt h hx _) hai, gm_left h (gm_lt h (gm_lt h hx _) _) (gm_lt h hai _)]
    congr 1
    · congr 1
      rw [gm_comm h hx hV, gm_assoc h hV hx hp]
    · rw [gm_comm h hB hp, ← gm_assoc h hai hp hB]
theorem val_prod (h : IsGF p m) {x : Nat} (hx : x < 2 ^ m) {a b : List Nat} (ha : AllIn m a) (hb : AllIn m b) (hb1 : 1 ≤ b.length) :
    valAt p m x (prodL p m a b) = gm p m (valAt p m x a) (valAt p m x b) := by
  rw [prodL, val_prodTo h hx ha hb hb1 a.length (Nat.le_refl _), List.take_length, Nat.sub_self]
  show gm p m (gm p m _ 1) _ = _
  rw [gm_one h]
end
end Go.Proofs.Ytpkmknbmjlnkgaa
