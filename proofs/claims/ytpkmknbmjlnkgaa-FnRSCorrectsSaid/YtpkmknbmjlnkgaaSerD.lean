/- The polynomials of the errors: the locator, the evaluator, and that the algorithm ends with them. Plain Lean. -/
import Derived.Test.YtpkmknbmjlnkgaaSerC
namespace Go.Proofs.Ytpkmknbmjlnkgaa
set_option linter.unusedVariables false

section
variable {p m : Nat} {h : IsGF p m}
theorem fac_in (h : IsGF p m) {X : Nat} (hX : X < 2 ^ m) : AllIn m [X, 1] := fun u hu => by
  rcases List.mem_cons.1 hu with h1 | h1
  · rw [h1]; exact hX
  · rw [List.mem_singleton.1 h1]; exact one_lt h
theorem lam_len : ∀ Xs : List Nat, (lamL p m Xs).length = Xs.length + 1
  | [] => rfl
  | X :: Xs => by rw [lamL, prodL_len, lam_len Xs]; simp; omega
theorem lam_in (h : IsGF p m) : ∀ Xs : List Nat, AllIn m Xs → AllIn m (lamL p m Xs)
  | [], _ => fun u hu => by rw [List.mem_singleton.1 hu]; exact one_lt h
  | X :: Xs, hX => prodL_in h (fac_in h (allIn_cons hX).1) (lam_in h Xs (allIn_cons hX).2)
theorem om_len : ∀ (y : Nat → Nat) (Xs : List Nat), 1 ≤ (omL p m y Xs).length ∧ (omL p m y Xs).length ≤ Xs.length + 1
  | _, [] => ⟨Nat.le_refl _, Nat.le_refl _⟩
  | y, X :: Xs => by
    have := om_len y Xs
    rw [omL, addL_len, scale_len, lam_len, prodL_len]
    simp
    omega
theorem om_in (h : IsGF p m) (y : Nat → Nat) : ∀ Xs : List Nat, AllIn m Xs → AllIn m (omL p m y Xs)
  | [], _ => fun u hu => by rw [List.mem_singleton.1 hu]; exact Nat.two_pow_pos m
  | X :: Xs, hX => addL_in h (scale_in h (lam_in h Xs (allIn_cons hX).2)) (prodL_in h (fac_in h (allIn_cons hX).1) (om_in h y Xs (allIn_cons hX).2))
theorem ser_fac (X : Nat) : ser h [X, 1] = 1 + shS (cS (mkK h X)) := by
  rw [show ([X, 1] : List Nat) = [X] ++ [1] from rfl, ser_snoc, ser_one, mk_one]
  rfl
theorem fac_mul (X : Nat) (f : SF h) : ser h [X, 1] * f = f + shS (scS (mkK h X) f) := by
  rw [ser_fac, sadd_mul, sone_mul, sh_mul, c_mul]
theorem ser_lam (h : IsGF p m) {X : Nat} {Xs : List Nat} (hX : AllIn m (X :: Xs)) : ser h (lamL p m (X :: Xs)) = ser h [X, 1] * ser h (lamL p m Xs) := by
  rw [lamL, ser_prod (fac_in h (allIn_cons hX).1) (lam_in h Xs (allIn_cons hX).2) (by rw [lam_len]; omega)]
theorem ser_om (h : IsGF p m) (y : Nat → Nat) {X : Nat} {Xs : List Nat} (hX : AllIn m (X :: Xs)) (hy : y X < 2 ^ m) : ser h (omL p m y (X :: Xs)) = scS (mkK h (y X)) (ser h (lamL p m Xs)) + ser h [X, 1] * ser h (omL p m y Xs) := by
  rw [omL, ser_addL, ser_scale hy _ (lam_in h Xs (allIn_cons hX).2), ser_prod (fac_in h (allIn_cons hX).1) (om_in h y Xs (allIn_cons hX).2) (om_len y Xs).1]
theorem lam_zero (h : IsGF p m) : ∀ Xs : List Nat, AllIn m Xs → ser h (lamL p m Xs) 0 = 1
  | [], _ => by rw [lamL, ser_one, mk_one]; rfl
  | X :: Xs, hX => by
    rw [ser_lam h hX, fac_mul, sadd_at, sh_zero, kadd_zero]
    exact lam_zero h Xs (allIn_cons hX).2
theorem lam_deg (h : IsGF p m) (Xs : List Nat) : DegS (ser h (lamL p m Xs)) (Xs.length + 1) := ser_deg _ _ (lam_len Xs)
theorem lam_top (h : IsGF p m) : ∀ Xs : List Nat, AllIn m Xs → (∀ X ∈ Xs, 0 < X) → ser h (lamL p m Xs) Xs.length ≠ 0
  | [], _, _ => by
    rw [lamL, ser_one, mk_one]
    exact kone_ne
  | X :: Xs, hX, h0 => by
    have hd := deg_mul 1 Xs.length (ser h [X, 1]) (ser h (lamL p m Xs)) (ser_deg 2 _ rfl) (lam_deg h Xs)
    intro e
    rw [ser_lam h hX, List.length_cons, Nat.add_comm, hd.2] at e
    rcases kmul_eq_zero e with e1 | e1
    · have e2 : ser h [X, 1] 1 = mkK h X := ser_top (h := h) X [1]
      rw [e2] at e1
      have := mk_inj (h := h) (allIn_cons hX).1 (Nat.two_pow_pos m) (e1.trans mk_zero.symm)
      have := h0 X (by simp)
      omega
    · exact lam_top h Xs (allIn_cons hX).2 (fun Y hY => h0 Y (by simp [hY])) e1
theorem lam_good (h : IsGF p m) {Xs : List Nat} (hX : AllIn m Xs) (h0 : ∀ X ∈ Xs, 0 < X) : Good m (Xs.length + 1) (lamL p m Xs) := by
  have hl := lam_len (p := p) (m := m) Xs
  refine ⟨tidy_first (.inl ?_) (by omega), lam_in h Xs hX, by omega, by omega⟩
  intro e
  have := ser_topD (h := h) (l := lamL p m Xs) (by omega)
  rw [e, mk_zero, hl] at this
  exact lam_top h Xs hX h0 this
theorem om_deg (h : IsGF p m) (y : Nat → Nat) : ∀ Xs : List Nat, AllIn m Xs → (∀ X ∈ Xs, y X < 2 ^ m) → DegS (ser h (omL p m y Xs)) Xs.length
  | [], _, _ => by
    rw [omL, ser_one, mk_zero, c_null]
    exact deg_null _
  | X :: Xs, hX, hy => by
    rw [ser_om h y hX (hy X (by simp)), fac_mul]
    have h1 := om_deg h y Xs (allIn_cons hX).2 (fun Y hY => hy Y (by simp [hY]))
    refine deg_add (fun i hi => ?_) (deg_add (deg_mono h1 (by simp)) (deg_sh (fun i hi => ?_)))
    · rw [sc_at, lam_deg h Xs i (by simpa using hi), kmul_zero]
    · rw [sc_at, h1 i hi, kmul_zero]
/-- The powers of X. -/
def geoS (h : IsGF p m) (X : Nat) : SF h := fun n => mkK h (powTo p m X n)
def sumS (h : IsGF p m) (y : Nat → Nat) : List Nat → SF h
  | [] => 0
  | X :: Xs => scS (mkK h (y X)) (geoS h X) + sumS h y Xs
theorem fac_geo (h : IsGF p m) {X : Nat} (hX : X < 2 ^ m) : ser h [X, 1] * geoS h X = 1 := by
  rw [fac_mul]
  refine sext fun n => ?_
  cases n with
  | zero =>
    rw [sadd_at, sh_zero, kadd_zero]
    show mkK h 1 = 1
    exact mk_one
  | succ n =>
    rw [sadd_at, sh_succ, sc_at]
    show mkK h (powTo p m X (n + 1)) + mkK h X * mkK h (powTo p m X n) = 0
    rw [← mk_gm hX (powTo_lt h n), ← pw_succ' h hX, kadd_self]
theorem key_eq (h : IsGF p m) (y : Nat → Nat) : ∀ Xs : List Nat, AllIn m Xs → (∀ X ∈ Xs, y X < 2 ^ m) → ser h (lamL p m Xs) * sumS h y Xs = ser h (omL p m y Xs)
  | [], _, _ => by
    rw [sumS, smul_zero, omL, ser_one, mk_zero, c_null]
  | X :: Xs, hX, hy => by
    have ih := key_eq h y Xs (allIn_cons hX).2 (fun Y hY => hy Y (by simp [hY]))
    rw [ser_om h y hX (hy X (by simp)), ser_lam h hX, sumS, smul_add, ← ih]
    have e1 : ser h [X, 1] * ser h (lamL p m Xs) * scS (mkK h (y X)) (geoS h X) = scS (mkK h (y X)) (ser h (lamL p m Xs)) := by
      rw [← c_mul, ← c_mul, show ser h [X, 1] * ser h (lamL p m Xs) * (cS (mkK h (y X)) * geoS h X) = cS (mkK h (y X)) * ser h (lamL p m Xs) * (ser h [X, 1] * geoS h X) from by ac_rfl, fac_geo h (allIn_cons hX).1, smul_one]
    rw [e1, smul_assoc]
/-- The locator's values. -/
theorem fac_val (h : IsGF p m) {X x : Nat} : valAt p m x [X, 1] = gm p m x X ^^^ 1 := by
  rw [show ([X, 1] : List Nat) = [X] ++ [1] from rfl, val_snoc, val_one]
theorem lam_val (h : IsGF p m) {x : Nat} (hx : x < 2 ^ m) : ∀ Xs : List Nat, AllIn m Xs → valAt p m x (lamL p m Xs) = denL p m x Xs
  | [], _ => val_one _ _
  | X :: Xs, hX => by rw [lamL, val_prod h hx (fac_in h (allIn_cons hX).1) (lam_in h Xs (allIn_cons hX).2) (by rw [lam_len]; omega), fac_val h, lam_val h hx Xs (allIn_cons hX).2, denL]
theorem den_lt (h : IsGF p m) {x : Nat} (hx : x < 2 ^ m) : ∀ Xs : List Nat, denL p m x Xs < 2 ^ m
  | [] => one_lt h
  | X :: Xs => gm_lt h (Nat.xor_lt_two_pow (gm_lt h hx X) (one_lt h)) _
theorem den_root (h : IsGF p m) {x : Nat} (hx : x < 2 ^ m) {Y : Nat} (e : gm p m x Y = 1) : ∀ Xs : List Nat, Y ∈ Xs → denL p m x Xs = 0
  | [], hY => by simp at hY
  | X :: Xs, hY => by
    rw [denL]
    rcases List.mem_cons.1 hY with h1 | h1
    · rw [← h1, e, Nat.xor_self, zero_gm]
    · rw [den_root h hx e Xs h1, gm_zero]
theorem den_ne (h : IsGF p m) {x : Nat} (hx : x < 2 ^ m) : ∀ Xs : List Nat, (∀ X ∈ Xs, gm p m x X ≠ 1) → denL p m x Xs ≠ 0
  | [], _ => by simp [denL]
  | X :: Xs, hX => fun e => by
    rcases gm_eq_zero h (Nat.xor_lt_two_pow (gm_lt h hx X) (one_lt h)) (den_lt h hx Xs) e with h1 | h1
    · exact hX X (by simp) (xor_zero_iff h1)
    · exact den_ne h hx Xs (fun Y hY => hX Y (by simp [hY])) h1
/-- The evaluator's value at a root. -/
theorem om_val (h : IsGF p m) (y : Nat → Nat) {x Y : Nat} (hx : x < 2 ^ m) (e : gm p m x Y = 1) : ∀ Xs : List Nat, AllIn m Xs → (∀ X ∈ Xs, y X < 2 ^ m) → Xs.Nodup → Y ∈ Xs → valAt p m x (omL p m y Xs) = gm p m (y Y) (denL p m x (Xs.erase Y))
  | [], _, _, _, hY => by simp at hY
  | X :: Xs, hX, hy, hN, hY => by
    obtain ⟨hX1, hX2⟩ := allIn_cons hX
    have hyX := hy X (by simp)
    rw [List.nodup_cons] at hN
    have hlv := val_lt h hx (lam_in h Xs hX2)
    rw [omL, val_addL h hx (scale_in h (lam_in h Xs hX2)) (prodL_in h (fac_in h hX1) (om_in h y Xs hX2)), val_scale h hx hyX _ (lam_in h Xs hX2), val_prod h hx (fac_in h hX1) (om_in h y Xs hX2) (om_len y Xs).1, fac_val h]
    by_cases hXY : X = Y
    · subst hXY
      rw [e, Nat.xor_self, zero_gm, Nat.xor_zero, List.erase_cons_head, lam_val h hx Xs hX2, gm_comm h (den_lt h hx Xs) hyX]
    · have hYm : Y ∈ Xs := by
        rcases List.mem_cons.1 hY with h1 | h1
        · exact absurd h1.symm hXY
        · exact h1
      have hyY : y Y < 2 ^ m := hy Y hY
      have hf : gm p m x X ^^^ 1 < 2 ^ m := Nat.xor_lt_two_pow (gm_lt h hx X) (one_lt h)
      have hd := den_lt h hx (Xs.erase Y)
      rw [lam_val h hx Xs hX2, den_root h hx e Xs hYm, zero_gm, Nat.zero_xor, om_val h y hx e Xs hX2 (fun Z hZ => hy Z (by simp [hZ])) hN.2 hYm, List.erase_cons_tail (by simpa using hXY), denL, ← gm_assoc h hf hyY hd, gm_comm h hf hyY, gm_assoc h hyY hf hd]

/-- The algorithm ends with the locator and the evaluator. -/
theorem euc_finds {R : Nat} (hR : 2 ≤ R) {a b Xs : List Nat} {y : Nat → Nat} (ha : Good m (R + 1) a) (ha0 : a.getD 0 0 ≠ 0) (hal : a.length = R + 1) (hb : Good m R b) (hsa : ser h a = shn R 1)
    (hX : AllIn m Xs) (hX0 : ∀ X ∈ Xs, 0 < X) (hN : Xs.Nodup) (hy : ∀ X ∈ Xs, y X < 2 ^ m) (hy0 : ∀ X ∈ Xs, 0 < y X) (hv : 1 ≤ Xs.length) (hvR : 2 * Xs.length ≤ R) (hsb : EqB R (ser h b) (sumS h y Xs))
    {rl r tl t : List Nat} (hE : Eucs p m R a b rl r tl t) (hfin : 2 * (r.length - 1) < R) :
    t.getD (t.length - 1) 0 ≠ 0 ∧ tidy (scaleBy p m (inv p m (t.getD (t.length - 1) 0)) t) = lamL p m Xs ∧ tidy (scaleBy p m (inv p m (t.getD (t.length - 1) 0)) r) = tidy (omL p m y Xs) := by
  obtain ⟨i1, i2, i3, i4, i5, i6, i7, i8⟩ := eucs_bound h hR ha ha0 hal hb hE
  obtain ⟨c1, c2, c3, c4⟩ := eucs_inv (h := h) hR ha ha0 hal hb hsa hE
  have hlam := lam_in h Xs hX
  have hom := om_in h y Xs hX
  have hkey := key_eq h y Xs hX hy
  have hld := lam_deg h Xs
  have hod := om_deg h y Xs hX hy
  have hr1 := i3.2.2.1
  have ht1 := i6.2.2.1
  have hrd := ser_deg (h := h) _ r rfl
  have htd := ser_deg (h := h) _ t rfl
  obtain ⟨n, hn⟩ : ∃ n, Xs.length = n + 1 := ⟨Xs.length - 1, by omega⟩
  -- the two products are alike
  have e3 : ser h (lamL p m Xs) * ser h r = ser h t * ser h (omL p m y Xs) := by
    have d1 := (deg_mul Xs.length (r.length - 1) (ser h (lamL p m Xs)) (ser h r) hld (deg_mono hrd (by omega))).1
    have d2 := (deg_mul (t.length - 1) n (ser h t) (ser h (omL p m y Xs)) (deg_mono htd (by omega)) (deg_mono hod (by omega))).1
    have e : EqB R (ser h (lamL p m Xs) * ser h r) (ser h t * ser h (omL p m y Xs)) := by
      refine (eqb_mul (eqb_refl R _) (c3.trans (eqb_mul (eqb_refl R _) hsb))).trans ?_
      rw [← hkey, show ser h (lamL p m Xs) * (ser h t * sumS h y Xs) = ser h t * (ser h (lamL p m Xs) * sumS h y Xs) from by ac_rfl]
      exact eqb_refl _ _
    refine sext fun i => ?_
    rcases Nat.lt_or_ge i R with hi | hi
    · exact e i hi
    · rw [d1 i (by omega), d2 i (by omega)]
  -- the roots
  have hroot : ∀ X ∈ Xs, valAt p m (inv p m X) t = 0 := by
    intro X hXm
    have hx := inv_lt h X
    have hXl := hX X hXm
    have e1 : gm p m (inv p m X) X = 1 := by rw [gm_comm h hx hXl]; exact gm_inv h (hX0 X hXm) hXl
    have e2 : ser h (prodL p m (lamL p m Xs) r) = ser h (prodL p m t (omL p m y Xs)) := by
      rw [ser_prod hlam i3.2.1 hr1, ser_prod i6.2.1 hom (om_len y Xs).1, e3]
    have e4 := val_of_ser (prodL_in h hlam i3.2.1) (prodL_in h i6.2.1 hom) e2 hx
    rw [val_prod h hx hlam i3.2.1 hr1, val_prod h hx i6.2.1 hom (om_len y Xs).1, lam_val h hx Xs hX, den_root h hx e1 Xs hXm, zero_gm, om_val h y hx e1 Xs hX hy hN hXm] at e4
    rcases gm_eq_zero h (val_lt h hx i6.2.1) (gm_lt h (hy X hXm) _) e4.symm with h4 | h4
    · exact h4
    · exfalso
      rcases gm_eq_zero h (hy X hXm) (den_lt h hx _) h4 with h5 | h5
      · have := hy0 X hXm
        omega
      · refine den_ne h hx _ (fun Z hZ e5 => ?_) h5
        have hZm := List.mem_of_mem_erase hZ
        have hZl := hX Z hZm
        have e6 : Z = X := by
          have e7 := congrArg (gm p m X) (e5.trans e1.symm)
          rw [← gm_assoc h hXl hx hZl, ← gm_assoc h hXl hx hXl, gm_inv h (hX0 X hXm) hXl, one_gm h hZl, one_gm h hXl] at e7
          exact e7
        rw [e6] at hZ
        exact List.Nodup.not_mem_erase hN hZ
  have hWW : EqB R (ser h rl * ser h (lamL p m Xs) + ser h (omL p m y Xs) * ser h tl) 0 := by
    have h1 : EqB R (ser h rl * ser h (lamL p m Xs)) (ser h (omL p m y Xs) * ser h tl) := by
      refine (eqb_mul (c2.trans (eqb_mul (eqb_refl R _) hsb)) (eqb_refl R _)).trans ?_
      rw [← hkey, show ser h tl * sumS h y Xs * ser h (lamL p m Xs) = ser h (lamL p m Xs) * sumS h y Xs * ser h tl from by ac_rfl]
      exact eqb_refl _ _
    intro i hi
    rw [sadd_at, h1 i hi, kadd_self, szero_at]
  obtain ⟨w, hw⟩ := shn_of_low R _ (fun i hi => hWW i hi)
  have hLn : ser h (lamL p m Xs) ≠ 0 := fun e => lam_top h Xs hX hX0 (by rw [e]; rfl)
  have e5 : ser h t * w = ser h (lamL p m Xs) := by
    refine shn_inj (k := R) ?_
    rw [← mul_shn, ← hw, smul_add]
    have q1 : ser h t * (ser h (omL p m y Xs) * ser h tl) = ser h (lamL p m Xs) * (ser h r * ser h tl) := by rw [← smul_assoc, ← e3, smul_assoc]
    have q2 : ser h t * (ser h rl * ser h (lamL p m Xs)) = ser h (lamL p m Xs) * (ser h rl * ser h t) := by ac_rfl
    rw [q1, q2, ← smul_add, c1, mul_shn, smul_one]
  have hwn : w ≠ 0 := fun e => hLn (by rw [← e5, e, smul_zero])
  have htn : ser h t ≠ 0 := fun e => hLn (by rw [← e5, e, szero_mul])
  obtain ⟨e, he1, he2, -⟩ := top_of (rl.length + Xs.length + Xs.length + tl.length + 1) w (fun i hi => by
    have hrld := ser_deg (h := h) _ rl rfl
    have htld := ser_deg (h := h) _ tl rfl
    have d1 := (deg_mul (rl.length - 1) Xs.length (ser h rl) (ser h (lamL p m Xs)) (deg_mono hrld (by omega)) hld).1
    have d2 := (deg_mul n (tl.length - 1) (ser h (omL p m y Xs)) (ser h tl) (deg_mono hod (by omega)) (deg_mono htld (by omega))).1
    rw [← shn_at R w i, ← hw, sadd_at, d1 _ (by omega), d2 _ (by omega), kadd_zero]) hwn
  have hth : t.getD 0 0 ≠ 0 := fun e0 => htn (by rw [tidy_zero i6.1 ht1 e0, ser_one, mk_zero, c_null])
  have hlen : Xs.length + 1 ≤ t.length := by
    rcases Nat.lt_or_ge Xs.length t.length with h6 | h6
    · exact h6
    · exfalso
      refine htn (roots_le (Xs.map (inv p m)) t ?_ ?_ i6.2.1 ?_ (by simpa using h6))
      · unfold List.Nodup
        rw [List.pairwise_map]
        refine List.Pairwise.imp_of_mem ?_ hN
        intro X Z hXm hZm hne e6
        refine hne ?_
        have hXl := hX X hXm
        have hZl := hX Z hZm
        have e7 := gm_inv h (hX0 Z hZm) hZl
        rw [← e6] at e7
        have e8 := congrArg (gm p m X) e7
        rw [gm_comm h hZl (inv_lt h X), ← gm_assoc h hXl (inv_lt h X) hZl, gm_inv h (hX0 X hXm) hXl, one_gm h hZl, gm_one h] at e8
        exact e8.symm
      · intro u hu
        obtain ⟨X, hXm, rfl⟩ := List.mem_map.1 hu
        exact inv_lt h X
      · intro u hu
        obtain ⟨X, hXm, rfl⟩ := List.mem_map.1 hu
        exact hroot X hXm
  have hdt := deg_mul (t.length - 1) e (ser h t) w (deg_mono htd (by omega)) he1
  have hte : t.length - 1 + e ≤ Xs.length := by
    rcases Nat.lt_or_ge Xs.length (t.length - 1 + e) with h6 | h6
    · exfalso
      have h7 := hdt.2
      rw [e5, hld _ h6, ser_topD ht1] at h7
      rcases kmul_eq_zero h7.symm with h8 | h8
      · exact hth (mk_inj (h := h) (getD_lt h i6.2.1 0) (Nat.two_pow_pos m) (h8.trans mk_zero.symm))
      · exact he2 h8
    · exact h6
  obtain rfl : e = 0 := by omega
  have hwc : w = cS (w 0) := sext fun i => by
    cases i with
    | zero => rfl
    | succ i => exact he1 (i + 1) (by omega)
  have e6 : ser h (lamL p m Xs) = scS (w 0) (ser h t) := by
    rw [← e5, smul_comm]
    conv => lhs; rw [hwc, c_mul]
  have htl := getD_lt h i6.2.1 (t.length - 1)
  have e7 : w 0 * mkK h (t.getD (t.length - 1) 0) = 1 := by
    rw [← ser_low ht1, ← lam_zero h Xs hX, e6]
    rfl
  have ht0 : t.getD (t.length - 1) 0 ≠ 0 := fun e0 => by
    rw [e0, mk_zero, kmul_zero] at e7
    exact kone_ne e7.symm
  generalize t.getD (t.length - 1) 0 = t0 at *
  have hil := inv_lt h t0
  have e8 : mkK h (inv p m t0) = w 0 := by
    have e9 : mkK h t0 * mkK h (inv p m t0) = 1 := by rw [← mk_gm htl hil, gm_inv h (by omega) htl, mk_one]
    rw [← kone_mul (mkK h (inv p m t0)), ← e7, kmul_assoc, e9, kmul_one]
  refine ⟨ht0, ?_, ?_⟩
  · have hg := lam_good h hX hX0
    refine tidy_of_ser (h := h) ⟨tidy_tidy _, tidy_in h (scale_in h i6.2.1), (tidy_cases _).1, Nat.le_refl _⟩ ⟨hg.1, hg.2.1, hg.2.2.1, Nat.le_refl _⟩ ?_
    rw [ser_tidy, ser_scale hil t i6.2.1, e8, e6]
  · refine tidy_of_ser (h := h) ⟨tidy_tidy _, tidy_in h (scale_in h i3.2.1), (tidy_cases _).1, Nat.le_refl _⟩ ⟨tidy_tidy _, tidy_in h hom, (tidy_cases _).1, Nat.le_refl _⟩ ?_
    rw [ser_tidy, ser_scale hil r i3.2.1, e8, ser_tidy]
    refine scancel hLn ?_
    rw [← c_mul, show ser h (lamL p m Xs) * (cS (w 0) * ser h r) = cS (w 0) * (ser h (lamL p m Xs) * ser h r) from by ac_rfl, e3, e6, ← c_mul]
    ac_rfl
end
end Go.Proofs.Ytpkmknbmjlnkgaa
