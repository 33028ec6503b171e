/- Lists of coefficients as power series. Plain Lean. -/
import Derived.Test.YtpkmknbmjlnkgaaSerA
import Derived.Test.YtpkmknbmjlnkgaaEucL
namespace Go.Proofs.Ytpkmknbmjlnkgaa
set_option linter.unusedVariables false

section
variable {p m : Nat} (h : IsGF p m)
/-- The series of coefficients, the last one first. -/
def serR : List Nat → SF h
  | [] => 0
  | a :: l => cS (mkK h a) + shS (serR l)
/-- The series of coefficients, the highest one first. -/
def ser (l : List Nat) : SF h := serR h l.reverse
end
section
variable {p m : Nat} {h : IsGF p m}
theorem ser_nil : ser h [] = 0 := rfl
theorem ser_snoc (l : List Nat) (a : Nat) : ser h (l ++ [a]) = cS (mkK h a) + shS (ser h l) := by
  unfold ser
  rw [List.reverse_append]
  rfl
theorem ser_one (a : Nat) : ser h [a] = cS (mkK h a) := by
  rw [show [a] = [] ++ [a] from rfl, ser_snoc, ser_nil, sh_null, sadd_zero]
theorem snoc_of {n : Nat} {b : List Nat} (hb : b.length = n + 1) : ∃ c y, b = c ++ [y] ∧ c.length = n := by
  have hne : b ≠ [] := by intro e; rw [e] at hb; simp at hb
  exact ⟨b.dropLast, b.getLast hne, (List.dropLast_concat_getLast hne).symm, by simp [hb]⟩
theorem ser_app (a : List Nat) : ∀ n (b : List Nat), b.length = n → ser h (a ++ b) = shn n (ser h a) + ser h b
  | 0, b, hb => by
    rw [List.eq_nil_of_length_eq_zero hb, List.append_nil, ser_nil, sadd_zero]
    rfl
  | n + 1, b, hb => by
    obtain ⟨c, y, rfl, hc⟩ := snoc_of hb
    rw [← List.append_assoc, ser_snoc, ser_app a n c hc, ser_snoc, sh_add, shn]
    ac_rfl
theorem ser_cons (a : Nat) (l : List Nat) : ser h (a :: l) = shn l.length (cS (mkK h a)) + ser h l := by
  have := ser_app (h := h) [a] l.length l rfl
  rw [ser_one] at this
  exact this
theorem ser_cons0 (l : List Nat) : ser h (0 :: l) = ser h l := by rw [ser_cons, mk_zero, c_null, shn_null, szero_add]
theorem ser_reps : ∀ d, ser h (List.replicate d 0) = 0
  | 0 => rfl
  | d + 1 => by rw [List.replicate_succ, ser_cons0, ser_reps d]
theorem ser_tidy : ∀ l : List Nat, ser h (tidy l) = ser h l
  | [] => by rw [tidy, ser_one, mk_zero, c_null, ser_nil]
  | [a] => rfl
  | 0 :: b :: l => by rw [ser_cons0]; exact ser_tidy (b :: l)
  | (a + 1) :: b :: l => rfl
theorem ser_shiftl (l : List Nat) (d : Nat) : ser h (shiftl l d) = shn d (ser h l) := by
  rw [shiftl, ser_app l d _ (by simp), ser_reps, sadd_zero]
theorem ser_mono (c d : Nat) : ser h (monoL c d) = shn d (cS (mkK h c)) := by
  rw [monoL, ser_cons, ser_reps, sadd_zero, List.length_replicate]
theorem ser_scale {c : Nat} (hc : c < 2 ^ m) : ∀ l : List Nat, AllIn m l → ser h (scaleBy p m c l) = scS (mkK h c) (ser h l)
  | [], _ => (sc_null _).symm
  | a :: l, hl => by
    obtain ⟨h1, h2⟩ := allIn_cons hl
    show ser h (gm p m a c :: scaleBy p m c l) = _
    rw [ser_cons, scale_len, ser_scale hc l h2, ser_cons, sc_add, ← shn_sc, sc_c, mk_gm h1 hc, kmul_comm]
theorem ser_zip : ∀ a b : List Nat, a.length = b.length → ser h (List.zipWith (· ^^^ ·) a b) = ser h a + ser h b
  | [], [], _ => (sadd_zero _).symm
  | a :: l, b :: k, hl => by
    have hlk : l.length = k.length := by simpa using hl
    rw [List.zipWith_cons_cons, ser_cons, ser_zip l k hlk, ser_cons, ser_cons, mk_xor, c_add, shn_add, show (List.zipWith (· ^^^ ·) l k).length = l.length from by simp [hlk], ← hlk]
    ac_rfl
theorem ser_addSL {s l : List Nat} (hle : s.length ≤ l.length) : ser h (addSL s l) = ser h s + ser h l := by
  unfold addSL
  rw [ser_zip _ _ (by simp; omega), ser_app _ _ s rfl, ser_reps, shn_null, szero_add]
theorem ser_addL (a b : List Nat) : ser h (addL a b) = ser h a + ser h b := by
  unfold addL
  split
  · rw [ser_addSL (by omega), sadd_comm]
  · exact ser_addSL (by omega)
theorem ser_set {l : List Nat} {k v : Nat} (hk : k < l.length) : ser h (l.set k (l.getD k 0 ^^^ v)) = ser h l + shn (l.length - 1 - k) (cS (mkK h v)) := by
  have e1 : l.set k (l.getD k 0 ^^^ v) = l.take k ++ (l.getD k 0 ^^^ v) :: l.drop (k + 1) := by rw [List.set_eq_take_append_cons_drop, if_pos hk]
  have e2 : l = l.take k ++ l.getD k 0 :: l.drop (k + 1) := by
    conv => lhs; rw [← List.take_append_drop k l, List.drop_eq_getElem_cons hk]
    simp [List.getD, List.getElem?_eq_getElem hk]
  have hlen : (l.drop (k + 1)).length = l.length - 1 - k := by rw [List.length_drop]; omega
  rw [e1]
  conv => rhs; lhs; rw [e2]
  rw [ser_app _ _ (_ :: _) rfl, ser_app _ _ (_ :: _) rfl, ser_cons, ser_cons, mk_xor, c_add, shn_add, hlen]
  simp only [List.length_cons]
  ac_rfl
theorem ser_rowTo {y : Nat} (hy : y < 2 ^ m) {b : List Nat} (hb : AllIn m b) (i : Nat) {out : List Nat} : ∀ k, k ≤ b.length → i + k ≤ out.length →
    ser h (rowTo p m y b i out k) = ser h out + shn (out.length - i - k) (scS (mkK h y) (ser h (b.take k)))
  | 0, _, _ => by
    rw [List.take_zero, ser_nil, sc_null, shn_null, sadd_zero]
    rfl
  | k + 1, hk, hik => by
    have ih := ser_rowTo hy hb i (out := out) k (by omega) (by omega)
    have hbk := getD_lt h hb k
    rw [rowTo, ser_set (by rw [rowTo_len]; omega), ih, rowTo_len, sadd_assoc]
    congr 1
    have e3 : b.take (k + 1) = b.take k ++ [b.getD k 0] := by
      rw [List.take_succ_eq_append_getElem (by omega)]
      simp [List.getD, List.getElem?_eq_getElem (show k < b.length by omega)]
    rw [e3, ser_snoc, show out.length - 1 - (i + k) = out.length - i - (k + 1) from by omega, show out.length - i - k = (out.length - i - (k + 1)) + 1 from by omega]
    generalize out.length - i - (k + 1) = t at *
    rw [sc_add, sc_c, shn_add, mk_gm hy hbk, ← sh_sc, show shS (scS (mkK h y) (ser h (b.take k))) = shn 1 (scS (mkK h y) (ser h (b.take k))) from rfl, shn_shn]
    ac_rfl
theorem ser_prodTo {a b : List Nat} (ha : AllIn m a) (hb : AllIn m b) (hb1 : 1 ≤ b.length) : ∀ i, i ≤ a.length →
    ser h (prodTo p m a b i) = shn (a.length - i) (ser h (a.take i) * ser h b)
  | 0, _ => by
    rw [List.take_zero, ser_nil, szero_mul, shn_null]
    exact ser_reps _
  | i + 1, hi => by
    have ih := ser_prodTo ha hb hb1 i (by omega)
    have hai := getD_lt h ha i
    rw [prodTo, ser_rowTo hai hb i b.length (Nat.le_refl _) (by rw [prodTo_len]; omega), ih, prodTo_len, List.take_length]
    have e3 : a.take (i + 1) = a.take i ++ [a.getD i 0] := by
      rw [List.take_succ_eq_append_getElem (by omega)]
      simp [List.getD, List.getElem?_eq_getElem (show i < a.length by omega)]
    rw [e3, ser_snoc, show a.length + b.length - 1 - i - b.length = a.length - (i + 1) from by omega, show a.length - i = (a.length - (i + 1)) + 1 from by omega]
    generalize a.length - (i + 1) = t at *
    rw [sadd_mul, c_mul, sh_mul, shn_add, show shS (ser h (a.take i) * ser h b) = shn 1 (ser h (a.take i) * ser h b) from rfl, shn_shn]
    ac_rfl
theorem ser_prod {a b : List Nat} (ha : AllIn m a) (hb : AllIn m b) (hb1 : 1 ≤ b.length) : ser h (prodL p m a b) = ser h a * ser h b := by
  rw [prodL, ser_prodTo ha hb hb1 a.length (Nat.le_refl _), List.take_length, Nat.sub_self]
  rfl
theorem ser_deg : ∀ n (l : List Nat), l.length = n → DegS (ser h l) n
  | 0, l, hl => by rw [List.eq_nil_of_length_eq_zero hl, ser_nil]; exact deg_null _
  | n + 1, l, hl => by
    obtain ⟨c, y, rfl, hc⟩ := snoc_of hl
    rw [ser_snoc]
    refine deg_add (fun i hi => ?_) (deg_sh (ser_deg n c hc))
    cases i with
    | zero => omega
    | succ i => rfl
theorem ser_top (a : Nat) (l : List Nat) : ser h (a :: l) l.length = mkK h a := by
  rw [ser_cons, sadd_at, ser_deg l.length l rfl l.length (Nat.le_refl _), kadd_zero]
  exact shn_at l.length (cS (mkK h a)) 0
theorem ser_topD {l : List Nat} (h1 : 1 ≤ l.length) : ser h l (l.length - 1) = mkK h (l.getD 0 0) := by
  match l, h1 with
  | a :: k, _ => exact ser_top a k
theorem ser_low {l : List Nat} (h1 : 1 ≤ l.length) : ser h l 0 = mkK h (l.getD (l.length - 1) 0) := by
  obtain ⟨c, y, rfl, hc⟩ := snoc_of (show l.length = (l.length - 1) + 1 from by omega)
  rw [ser_snoc, sadd_at, sh_zero, kadd_zero]
  simp [List.getD, c_zero]
theorem ser_inj : ∀ n (a b : List Nat), a.length = n → b.length = n → AllIn m a → AllIn m b → ser h a = ser h b → a = b
  | 0, a, b, ha, hb, _, _, _ => by rw [List.eq_nil_of_length_eq_zero ha, List.eq_nil_of_length_eq_zero hb]
  | n + 1, a, b, ha, hb, hA, hB, e => by
    obtain ⟨c, x, rfl, hc⟩ := snoc_of ha
    obtain ⟨d, y, rfl, hd⟩ := snoc_of hb
    rw [ser_snoc, ser_snoc] at e
    have e0 := congrFun e 0
    rw [sadd_at, sadd_at, sh_zero, sh_zero, kadd_zero, kadd_zero, c_zero, c_zero] at e0
    have hxy := mk_inj (hA x (by simp)) (hB y (by simp)) e0
    have et : ser h c = ser h d := sext fun i => by
      have := congrFun e (i + 1)
      rw [sadd_at, sadd_at, c_succ, c_succ, kzero_add, kzero_add] at this
      exact this
    rw [ser_inj n c d hc hd (fun z hz => hA z (by simp [hz])) (fun z hz => hB z (by simp [hz])) et, hxy]
theorem pad_in {l : List Nat} (hl : AllIn m l) (d : Nat) : AllIn m (List.replicate d 0 ++ l) := allIn_app (reps_in d) hl
/-- Of one series, of one value. -/
theorem val_of_ser {a b : List Nat} (ha : AllIn m a) (hb : AllIn m b) (e : ser h a = ser h b) {x : Nat} (hx : x < 2 ^ m) : valAt p m x a = valAt p m x b := by
  have e1 : List.replicate b.length 0 ++ a = List.replicate a.length 0 ++ b := by
    refine ser_inj (h := h) (a.length + b.length) _ _ (by simp; omega) (by simp) (pad_in ha _) (pad_in hb _) ?_
    rw [ser_app _ _ a rfl, ser_app _ _ b rfl, ser_reps, ser_reps, shn_null, shn_null, szero_add, szero_add, e]
  have e2 := congrArg (valAt p m x) e1
  rw [val_app h hx (reps_in _) _ _ rfl ha, val_app h hx (reps_in _) _ _ rfl hb, val_reps h hx, val_reps h hx, zero_gm, zero_gm, Nat.zero_xor, Nat.zero_xor] at e2
  exact e2
theorem tidy_len_of_ser {a b : List Nat} (ha : Good m a.length a) (hb : Good m b.length b) (e : ser h a = ser h b) : b.length ≤ a.length := by
  rcases Nat.lt_or_ge a.length b.length with hlt | hge
  · exfalso
    have e0 := ser_topD (h := h) hb.2.2.1
    rw [← e, ser_deg _ a rfl _ (by omega)] at e0
    have b0 : b.getD 0 0 = 0 := mk_inj (h := h) (getD_lt h hb.2.1 0) (Nat.two_pow_pos m) (e0.symm.trans mk_zero.symm)
    have hb1 := tidy_zero hb.1 hb.2.2.1 b0
    have ha1 := ha.2.2.1
    have h3 : b.length = 1 := by rw [hb1]; rfl
    omega
  · exact hge
/-- Of one series, and tidy: alike. -/
theorem tidy_of_ser {a b : List Nat} (ha : Good m a.length a) (hb : Good m b.length b) (e : ser h a = ser h b) : a = b := by
  have h1 := tidy_len_of_ser ha hb e
  have h2 := tidy_len_of_ser hb ha e.symm
  exact ser_inj a.length a b rfl (by omega) ha.2.1 hb.2.1 e
end
end Go.Proofs.Ytpkmknbmjlnkgaa
