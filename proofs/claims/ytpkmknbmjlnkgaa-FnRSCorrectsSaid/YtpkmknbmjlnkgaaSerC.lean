/- The decoder's Euclidean algorithm finds the polynomials of the errors. Plain Lean. -/
import Derived.Test.YtpkmknbmjlnkgaaSerB
namespace Go.Proofs.Ytpkmknbmjlnkgaa
set_option linter.unusedVariables false

/-- The locator of the places Xs. -/
def lamL (p m : Nat) : List Nat → List Nat
  | [] => [1]
  | X :: Xs => prodL p m [X, 1] (lamL p m Xs)
/-- The evaluator. -/
def omL (p m : Nat) (y : Nat → Nat) : List Nat → List Nat
  | [] => [0]
  | X :: Xs => addL (scaleBy p m (y X) (lamL p m Xs)) (prodL p m [X, 1] (omL p m y Xs))
/-- The product of the differences. -/
def denL (p m x : Nat) : List Nat → Nat
  | [] => 1
  | X :: Xs => gm p m (gm p m x X ^^^ 1) (denL p m x Xs)

section
variable {p m : Nat} {h : IsGF p m}
theorem divs_ser {d r0 : List Nat} (hd : Good m r0.length d) (hd0 : d.getD 0 0 ≠ 0) (hr0 : Good m r0.length r0) {q r : List Nat} (hD : Divs p m d [0] r0 q r) :
    ser h r0 = ser h r + ser h q * ser h d := by
  induction hD with
  | refl => rw [ser_one, mk_zero, c_null, szero_mul, sadd_zero]
  | step hD h1 h2 ih =>
    rename_i q r
    obtain ⟨gr, gq⟩ := divs_good h hd hd0 hr0 hD
    have hs : gm p m (r.getD 0 0) (inv p m (d.getD 0 0)) < 2 ^ m := gm_lt h (getD_lt h gr.2.1 0) _
    generalize gm p m (r.getD 0 0) (inv p m (d.getD 0 0)) = s at *
    rw [ih, ser_tidy, ser_addL, ser_shiftl, ser_scale hs d hd.2.1, ser_tidy, ser_addL, ser_tidy, ser_mono, sadd_mul, shn_mul, c_mul]
    generalize shn (r.length - d.length) (scS (mkK h s) (ser h d)) = u
    rw [show ser h r + u + (ser h q * ser h d + u) = ser h r + ser h q * ser h d + (u + u) from by ac_rfl, sadd_self, sadd_zero]

/-- What holds of each state. -/
structure EucI (h : IsGF p m) (R : Nat) (b rl r tl t : List Nat) : Prop where
  cross : ser h rl * ser h t + ser h r * ser h tl = shn R 1
  el : EqB R (ser h rl) (ser h tl * ser h b)
  e : EqB R (ser h r) (ser h t * ser h b)
  long : R ≤ 2 * (rl.length - 1)

theorem eucs_inv {R : Nat} (hR : 2 ≤ R) {a b : List Nat} (ha : Good m (R + 1) a) (ha0 : a.getD 0 0 ≠ 0) (hal : a.length = R + 1) (hb : Good m R b) (hsa : ser h a = shn R 1) {rl r tl t : List Nat} (hE : Eucs p m R a b rl r tl t) : EucI h R b rl r tl t := by
  induction hE with
  | start =>
    have e0 : ser h [0] = 0 := by rw [ser_one, mk_zero, c_null]
    have e1 : ser h [1] = 1 := by rw [ser_one, mk_one]; rfl
    exact ⟨by rw [e0, e1, smul_one, smul_zero, sadd_zero, hsa], by rw [e0, szero_mul, hsa]; exact fun i hi => shn_low _ _ _ hi, by rw [e1, sone_mul]; exact eqb_refl _ _, by omega⟩
  | step hE h1 h2 hD h3 ih =>
    rename_i rl r tl t q r'
    obtain ⟨i1, i2, i3, i4, i5, i6, i7, i8⟩ := eucs_bound h hR ha ha0 hal hb hE
    obtain ⟨c1, c2, c3, c4⟩ := ih
    have gd : Good m rl.length r := ⟨i3.1, i3.2.1, i3.2.2.1, by omega⟩
    have grl : Good m rl.length rl := ⟨i1.1, i1.2.1, i1.2.2.1, Nat.le_refl _⟩
    obtain ⟨g1, g2⟩ := divs_good h gd h2 grl hD
    have e := divs_ser (h := h) gd h2 grl hD
    have et : ser h (tidy (addL (tidy (prodL p m q t)) tl)) = ser h q * ser h t + ser h tl := by
      rw [ser_tidy, ser_addL, ser_tidy, ser_prod g2.2.1 i6.2.1 i6.2.2.1]
    have er : ser h r' = ser h rl + ser h q * ser h r := by
      rw [e, sadd_assoc, sadd_self, sadd_zero]
    refine ⟨?_, c3, ?_, by omega⟩
    · rw [et, ← c1, e, smul_add, sadd_mul]
      have e9 : ser h r * (ser h q * ser h t) = ser h q * ser h r * ser h t := by ac_rfl
      rw [e9]
      ac_rfl
    · rw [et, er, sadd_mul, sadd_comm]
      refine eqb_add ?_ c2
      rw [smul_assoc]
      exact eqb_mul (eqb_refl _ _) c3

/-- A root goes out. -/
theorem root_out {x : Nat} (hx : x < 2 ^ m) : ∀ n (l : List Nat), l.length = n → AllIn m l → ∃ g : List Nat, g.length = n - 1 ∧ AllIn m g ∧ ser h l = (cS (mkK h x) + shS 1) * ser h g + cS (mkK h (valAt p m x l))
  | 0, l, hl, _ => by
    obtain rfl := List.eq_nil_of_length_eq_zero hl
    refine ⟨[], rfl, fun z hz => by simp at hz, ?_⟩
    rw [val_nil, mk_zero, ser_nil, smul_zero, c_null, sadd_zero]
  | 1, l, hl, hA => by
    obtain ⟨c, y, rfl, hc⟩ := snoc_of hl
    obtain rfl := List.eq_nil_of_length_eq_zero hc
    refine ⟨[], rfl, fun z hz => by simp at hz, ?_⟩
    rw [List.nil_append, val_one, ser_one, ser_nil, smul_zero, szero_add]
  | n + 2, l, hl, hA => by
    obtain ⟨c, y, rfl, hc⟩ := snoc_of hl
    have hAc : AllIn m c := fun z hz => hA z (by simp [hz])
    obtain ⟨g, hg, hgA, e⟩ := root_out hx (n + 1) c hc hAc
    have hv := val_lt h hx hAc
    refine ⟨g ++ [valAt p m x c], by simp [hg], allIn_app hgA (fun z hz => by rw [List.mem_singleton.1 hz]; exact hv), ?_⟩
    rw [ser_snoc, e, ser_snoc, val_snoc, mk_xor, mk_gm hx hv, c_add, sh_add, smul_add]
    generalize mkK h (valAt p m x c) = v
    have e1 : (cS (mkK h x) + shS 1) * cS v = cS (mkK h x * v) + shS (cS v) := by
      rw [sadd_mul, c_mul, sc_c, sh_mul, sone_mul]
    have e2 : (cS (mkK h x) + shS 1) * shS (ser h g) = shS ((cS (mkK h x) + shS 1) * ser h g) := by
      rw [smul_comm, sh_mul, smul_comm]
    rw [e1, e2]
    generalize cS (mkK h x * v) = u1
    rw [show u1 + shS (cS v) + shS ((cS (mkK h x) + shS 1) * ser h g) + (u1 + cS (mkK h y)) = (u1 + u1) + (shS (cS v) + shS ((cS (mkK h x) + shS 1) * ser h g) + cS (mkK h y)) from by ac_rfl, sadd_self, szero_add]
    ac_rfl

/-- Not more roots than the degree. -/
theorem roots_le : ∀ (Rs : List Nat) (l : List Nat), Rs.Nodup → AllIn m Rs → AllIn m l → (∀ x ∈ Rs, valAt p m x l = 0) → l.length ≤ Rs.length → ser h l = 0
  | [], l, _, _, _, _, hl => by
    have h0 : l.length = 0 := by simpa using hl
    obtain rfl := List.eq_nil_of_length_eq_zero h0
    rfl
  | x :: Rs, l, hN, hRs, hA, hz, hl => by
    obtain ⟨hx, hRs'⟩ := allIn_cons hRs
    obtain ⟨g, hg, hgA, e⟩ := root_out (h := h) hx l.length l rfl hA
    rw [List.nodup_cons] at hN
    have hz0 := hz x (by simp)
    rw [hz0, mk_zero, c_null, sadd_zero] at e
    have hg0 : ser h g = 0 := by
      rcases Nat.eq_zero_or_pos g.length with h0 | h0
      · rw [List.eq_nil_of_length_eq_zero h0]; rfl
      refine roots_le Rs g hN.2 hRs' hgA (fun z hzR => ?_) (by simp at hl; omega)
      have hzl := hRs' z hzR
      have h1x : AllIn m [1, x] := fun u hu => by
        rcases List.mem_cons.1 hu with h1 | h1
        · rw [h1]; exact one_lt h
        · rw [List.mem_singleton.1 h1]; exact hx
      have e2 : ser h l = ser h (prodL p m [1, x] g) := by
        rw [ser_prod h1x hgA h0, show ([1, x] : List Nat) = [1] ++ [x] from rfl, ser_snoc, ser_one, mk_one, e]
        rfl
      have e3 := val_of_ser hA (prodL_in h h1x hgA) e2 hzl
      rw [val_prod h hzl h1x hgA h0, hz z (by simp [hzR]), show ([1, x] : List Nat) = [1] ++ [x] from rfl, val_snoc, val_one, gm_one h] at e3
      rcases gm_eq_zero h (Nat.xor_lt_two_pow hzl hx) (val_lt h hzl hgA) e3.symm with h4 | h4
      · exact absurd (xor_zero_iff h4 ▸ hzR) hN.1
      · exact h4
    rw [e, hg0, smul_zero]
end
end Go.Proofs.Ytpkmknbmjlnkgaa
