/- Words of a code of which at most half as many are others are put right. Plain Lean. -/
import Derived.Test.YtpkmknbmjlnkgaaCorL
namespace Go.Proofs.Ytpkmknbmjlnkgaa
set_option linter.unusedVariables false

section
variable {p m : Nat} {h : IsGF p m}
theorem den_app (h : IsGF p m) {x : Nat} (hx : x < 2 ^ m) (Y : Nat) : ∀ l : List Nat, denL p m x (l ++ [Y]) = gm p m (denL p m x l) (gm p m x Y ^^^ 1)
  | [] => by
    have hl : gm p m x Y ^^^ 1 < 2 ^ m := Nat.xor_lt_two_pow (gm_lt h hx Y) (one_lt h)
    show gm p m (gm p m x Y ^^^ 1) 1 = gm p m 1 (gm p m x Y ^^^ 1)
    rw [gm_one h, one_gm h hl]
  | X :: l => by
    rw [List.cons_append, denL, denL, den_app h hx Y l, gm_assoc h (Nat.xor_lt_two_pow (gm_lt h hx X) (one_lt h)) (den_lt h hx l) (Nat.xor_lt_two_pow (gm_lt h hx Y) (one_lt h))]
theorem den_perm (h : IsGF p m) {x : Nat} (hx : x < 2 ^ m) {a b : List Nat} (hp : a.Perm b) : denL p m x a = denL p m x b := by
  induction hp with
  | nil => rfl
  | cons X _ ih => rw [denL, denL, ih]
  | swap X Z l =>
    have h1 : gm p m x X ^^^ 1 < 2 ^ m := Nat.xor_lt_two_pow (gm_lt h hx X) (one_lt h)
    have h2 : gm p m x Z ^^^ 1 < 2 ^ m := Nat.xor_lt_two_pow (gm_lt h hx Z) (one_lt h)
    have h3 := den_lt h hx l
    rw [denL, denL, denL, denL, ← gm_assoc h h2 h1 h3, ← gm_assoc h h1 h2 h3, gm_comm h h1 h2]
  | trans _ _ ih1 ih2 => rw [ih1, ih2]
theorem denTo_eq (h : IsGF p m) {locs : List Nat} (hl : AllIn m locs) {x : Nat} (hx : x < 2 ^ m) (i : Nat) : ∀ j, j ≤ locs.length → denTo p m locs i x j = denL p m x ((locs.take j).eraseIdx i)
  | 0, _ => by simp [denTo, denL]
  | j + 1, hj => by
    have ih := denTo_eq h hl hx i j (by omega)
    have hlen : (locs.take j).length = j := by rw [List.length_take]; omega
    have ht : locs.take (j + 1) = locs.take j ++ [locs.getD j 0] := by
      rw [List.take_succ_eq_append_getElem (by omega), List.getD, List.getElem?_eq_getElem (by omega)]
      rfl
    have hlj := getD_lt h hl j
    rw [denTo, ht]
    split
    · rename_i e
      subst e
      rw [ih, List.eraseIdx_append_of_length_le (by omega), hlen, Nat.sub_self, List.eraseIdx_of_length_le (by omega)]
      simp
    · rename_i e
      rw [ih]
      rcases Nat.lt_or_ge i j with h1 | h1
      · rw [List.eraseIdx_append_of_lt_length (by omega), den_app h hx, gm_comm h hlj hx]
      · have e1 : [locs.getD j 0].eraseIdx (i - j) = [locs.getD j 0] := List.eraseIdx_of_length_le (by simp; omega)
        rw [List.eraseIdx_append_of_length_le (by omega), hlen, e1, List.eraseIdx_of_length_le (by omega), den_app h hx, gm_comm h hlj hx]
theorem erase_idx : ∀ (l : List Nat) (i : Nat), l.Nodup → i < l.length → l.eraseIdx i = l.erase (l.getD i 0)
  | [], i, _, hi => by simp at hi
  | X :: l, 0, _, _ => by simp
  | X :: l, i + 1, hn, hi => by
    rw [List.nodup_cons] at hn
    have hi2 : i < l.length := by simpa using hi
    have hm : l.getD i 0 ∈ l := by
      rw [List.getD, List.getElem?_eq_getElem hi2]
      exact List.getElem_mem _
    rw [List.eraseIdx_cons_succ, erase_idx l i hn.2 hi2, List.getD_cons_succ, List.erase_cons_tail (by
      intro e
      rw [beq_iff_eq] at e
      exact hn.1 (e ▸ hm))]
theorem denAt_eq (h : IsGF p m) {locs Xs : List Nat} (hl : AllIn m locs) (hp : locs.Perm Xs) (hN : Xs.Nodup) {i : Nat} (hi : i < locs.length) : denAt p m locs i = denL p m (inv p m (locs.getD i 0)) (Xs.erase (locs.getD i 0)) := by
  have hx := inv_lt h (locs.getD i 0)
  unfold denAt
  rw [denTo_eq h hl hx i _ (Nat.le_refl _), List.take_length, erase_idx locs i (hp.nodup_iff.2 hN) hi]
  exact den_perm h hx (hp.erase _)
theorem ex_zero : ex p m 0 = 1 := by rw [ex_it]; rfl

/-- The words after so many corrections. -/
theorem fix_at (out locs mags : List Nat) (e : Nat → Nat) (hp : ∀ i, i < locs.length → out.length - 1 - lg p m (locs.getD i 0) < out.length ∧ mags.getD i 0 = e (out.length - 1 - lg p m (locs.getD i 0)))
    (hN : (locs.map fun X => out.length - 1 - lg p m X).Nodup) : ∀ k, k ≤ locs.length → ∀ j, (fixL p m out locs mags k).getD j 0 = if j ∈ (locs.take k).map (fun X => out.length - 1 - lg p m X) then out.getD j 0 ^^^ e j else out.getD j 0
  | 0, _, j => by simp [fixL]
  | k + 1, hk, j => by
    have ih := fix_at out locs mags e hp hN k (by omega)
    have ht : locs.take (k + 1) = locs.take k ++ [locs.getD k 0] := by
      rw [List.take_succ_eq_append_getElem (by omega), List.getD, List.getElem?_eq_getElem (by omega)]
      rfl
    obtain ⟨h1, h2⟩ := hp k (by omega)
    have hnot : out.length - 1 - lg p m (locs.getD k 0) ∉ (locs.take k).map (fun X => out.length - 1 - lg p m X) := by
      have hN2 : ((locs.take (k + 1)).map fun X => out.length - 1 - lg p m X).Nodup := by
        rw [List.map_take]
        exact hN.sublist (List.take_sublist _ _)
      rw [ht, List.map_append, List.nodup_append] at hN2
      intro hm
      exact hN2.2.2 _ hm _ (List.mem_singleton.2 rfl) rfl
    rw [fixL, getD_set _ _ _ _ (by rw [fix_len]; exact h1), ih, ih, if_neg hnot, h2, ht, List.map_append, List.map_singleton]
    generalize out.length - 1 - lg p m (locs.getD k 0) = P at *
    by_cases hj : j = P
    · subst hj
      rw [if_pos rfl, if_pos (by simp)]
    · rw [if_neg hj]
      simp [hj]

theorem map_nodup {f : Nat → Nat} : ∀ l : List Nat, (∀ a ∈ l, ∀ b ∈ l, f a = f b → a = b) → l.Nodup → (l.map f).Nodup := by
  intro l hf hN
  unfold List.Nodup
  rw [List.pairwise_map]
  exact List.Pairwise.imp_of_mem (fun ha hb hne e => hne (hf _ ha _ hb e)) hN
/-- Words of a code of which at most half as many are others are put right. -/
theorem corrects (h : IsGF p m) {base R n : Nat} {c out Ps : List Nat} {e : Nat → Nat} {o : Option (List Nat)} (hb : base ≤ 1) (hR : 2 ≤ R) (hn : n ≤ 2 ^ m - 1) (hc : CodeL p m base R n c) (hH : Hurt m c out Ps e) (he : ∀ k ∈ Ps, 0 < e k) (hP : 2 * Ps.length ≤ R) (hD : DecRel p m base R out o) : o = some c := by
  obtain ⟨hcA, hcl, hcz⟩ := hc
  have hon : out.length = n := hH.len.trans hcl
  have hlt : ∀ k ∈ Ps, k < n := fun k hk => hcl ▸ hH.lt k hk
  have hsyn : ∀ i, i < R → valAt p m (ex p m (i + base)) out = sumP p m (ex p m (i + base)) n e Ps := fun i hi => by
    rw [val_hurt h hcA (ex_lt h _) Ps out hH, Nat.add_comm i, hcz i hi, Nat.zero_xor, hcl]
  have hlgk : ∀ k ∈ Ps, lg p m (locX p m n k) = n - 1 - k := fun k hk => lg_ex h (by have := hlt k hk; omega)
  obtain ⟨Xs, hXs⟩ : ∃ Xs, Xs = Ps.map (locX p m n) := ⟨_, rfl⟩
  have hXl : Xs.length = Ps.length := by rw [hXs, List.length_map]
  have hX : AllIn m Xs := fun X hXm => by
    rw [hXs] at hXm
    obtain ⟨k, _, rfl⟩ := List.mem_map.1 hXm
    exact ex_lt h _
  have hX0 : ∀ X ∈ Xs, 0 < X := fun X hXm => by
    rw [hXs] at hXm
    obtain ⟨k, _, rfl⟩ := List.mem_map.1 hXm
    exact ex_pos h _
  have hpos : ∀ X ∈ Xs, n - 1 - lg p m X ∈ Ps ∧ lg p m X < n := fun X hXm => by
    rw [hXs] at hXm
    obtain ⟨k, hk, rfl⟩ := List.mem_map.1 hXm
    have := hlt k hk
    rw [hlgk k hk, show n - 1 - (n - 1 - k) = k from by omega]
    exact ⟨hk, by omega⟩
  have hN : Xs.Nodup := by
    rw [hXs]
    refine map_nodup Ps (fun a ha b hb e1 => ?_) hH.nd
    have := ex_inj h (by have := hlt a ha; omega) (by have := hlt b hb; omega) e1
    have := hlt a ha
    have := hlt b hb
    omega
  have hy : ∀ X ∈ Xs, yOf p m base n e X < 2 ^ m := fun X hXm => gm_lt h (hH.el _) _
  have hy0 : ∀ X ∈ Xs, 0 < yOf p m base n e X := fun X hXm => Nat.pos_of_ne_zero fun e0 => by
    rcases gm_eq_zero h (hH.el _) (ex_lt h _) e0 with h1 | h1
    · have := he _ (hpos X hXm).1
      omega
    · have := ex_pos (p := p) h (base * lg p m X)
      omega
  have hsum : ∀ i, i < R → sumS h (yOf p m base n e) Xs i = mkK h (valAt p m (ex p m (i + base)) out) := fun i hi => by
    rw [hXs, sum_at h base n hn e hH.el i Ps hlt, hsyn i hi]
  have hout : Ps = [] → out = c := fun e0 => ext_getD2 hH.len (fun k hk => hH.off k hk (by simp [e0]))
  rcases hD with ⟨hz, rfl⟩ | ⟨hz, rl, r, tl, t, hE, hfin, hcase⟩
  · -- no syndrome: no place
    rw [hout]
    match hPs : Ps with
    | [] => rfl
    | k :: Ks =>
      exfalso
      have hkX : locX p m n k ∈ Xs := by rw [hXs]; simp
      have h1 := key_eq h (yOf p m base n e) Xs hX hy
      have h2 : EqB R (ser h (omL p m (yOf p m base n e) Xs)) 0 := by
        rw [← h1, ← smul_zero (ser h (lamL p m Xs))]
        refine eqb_mul (eqb_refl _ _) (fun i hi => ?_)
        rw [hsum i hi, hz i hi, mk_zero]
        rfl
      have h3 : ser h (omL p m (yOf p m base n e) Xs) = ser h [0] := by
        rw [ser_one, mk_zero, c_null]
        refine sext fun i => ?_
        rcases Nat.lt_or_ge i R with h4 | h4
        · exact h2 i h4
        · exact om_deg h (yOf p m base n e) Xs hX hy i (by simp at hP hXl; omega)
      have h0A : AllIn m [0] := fun u hu => by rw [List.mem_singleton.1 hu]; exact Nat.two_pow_pos m
      have hx := inv_lt h (locX p m n k)
      have hXk := hX _ hkX
      have h4 := val_of_ser (om_in h _ Xs hX) h0A h3 hx
      have e1 : gm p m (inv p m (locX p m n k)) (locX p m n k) = 1 := by rw [gm_comm h hx hXk]; exact gm_inv h (hX0 _ hkX) hXk
      rw [om_val h _ hx e1 Xs hX hy hN hkX, val_one] at h4
      rcases gm_eq_zero h (hy _ hkX) (den_lt h hx _) h4 with h5 | h5
      · have := hy0 _ hkX
        omega
      · refine den_ne h hx _ (fun Z hZ e5 => ?_) h5
        have hZm := List.mem_of_mem_erase hZ
        have hZl := hX Z hZm
        have e6 : Z = locX p m n k := by
          have e7 := congrArg (gm p m (locX p m n k)) (e5.trans e1.symm)
          rw [← gm_assoc h hXk hx hZl, ← gm_assoc h hXk hx hXk, gm_inv h (hX0 _ hkX) hXk, one_gm h hZl, one_gm h hXk] at e7
          exact e7
        rw [e6] at hZ
        exact List.Nodup.not_mem_erase hN hZ
  · have hv : 1 ≤ Xs.length := by
      rcases Nat.eq_zero_or_pos Ps.length with h1 | h1
      · exfalso
        refine hz fun i hi => ?_
        rw [hsyn i hi, List.eq_nil_of_length_eq_zero h1]
        rfl
      · omega
    have houtA := hH.all
    have hsl := syn_len (p := p) (m := m) base out R
    have hgb : Good m R (tidy (synL p m base out R)) := good_tidy h (syn_in h base houtA R) (by omega) (by omega)
    have hga : Good m (R + 1) (monoL 1 R) := ⟨tidy_first (.inl (by simp [monoL])) (by simp [monoL]), mono_in h (one_lt h) R, by simp [monoL], by simp [monoL]⟩
    obtain ⟨f1, f2, f3⟩ := euc_finds (h := h) hR hga (by simp [monoL]) (by simp [monoL]) hgb (by rw [ser_mono, mk_one]; rfl) hX hX0 hN hy hy0 hv (by omega) (fun i hi => by rw [ser_tidy, syn_ser h base out R i hi, hsum i hi]) hE hfin
    rcases hcase with ⟨h1, _⟩ | ⟨_, hend⟩
    · exact absurd h1 f1
    rw [f2, f3] at hend
    obtain ⟨locs, hl, hp⟩ := locs_found h hX hX0 hN hv
    rcases hend with ⟨h1, _⟩ | ⟨locs', hl', hfix⟩
    · rw [hl] at h1; simp at h1
    rw [hl] at hl'
    injection hl' with hl'
    subst hl'
    have hlA : AllIn m locs := fun X hXm => hX X (hp.mem_iff.1 hXm)
    have hmem : ∀ i, i < locs.length → locs.getD i 0 ∈ Xs := fun i hi => by
      rw [List.getD, List.getElem?_eq_getElem hi]
      exact hp.mem_iff.1 (List.getElem_mem _)
    have hden : ∀ i, i < locs.length → denAt p m locs i ≠ 0 := fun i hi => by
      rw [denAt_eq h hlA hp hN hi]
      have hXm := hmem i hi
      have hXi := hX _ hXm
      have hx := inv_lt h (locs.getD i 0)
      have e1 : gm p m (inv p m (locs.getD i 0)) (locs.getD i 0) = 1 := by rw [gm_comm h hx hXi]; exact gm_inv h (hX0 _ hXm) hXi
      refine den_ne h hx _ (fun Z hZ e5 => ?_)
      have hZl := hX Z (List.mem_of_mem_erase hZ)
      have e6 : Z = locs.getD i 0 := by
        have e7 := congrArg (gm p m (locs.getD i 0)) (e5.trans e1.symm)
        rw [← gm_assoc h hXi hx hZl, ← gm_assoc h hXi hx hXi, gm_inv h (hX0 _ hXm) hXi, one_gm h hZl, one_gm h hXi] at e7
        exact e7
      rw [e6] at hZ
      exact List.Nodup.not_mem_erase hN hZ
    rcases hfix with ⟨⟨i, hi, h0⟩, _⟩ | ⟨_, ⟨⟨k, hk, h1⟩, _⟩ | ⟨_, rfl⟩⟩
    · exact absurd h0 (hden i hi)
    · have := (hpos _ (hmem k hk)).2
      omega
    congr 1
    have hperm : (locs.map fun X => out.length - 1 - lg p m X).Perm Ps := by
      rw [hon]
      refine (hp.map _).trans ?_
      rw [hXs, List.map_map]
      have : Ps.map ((fun X => n - 1 - lg p m X) ∘ locX p m n) = Ps := by
        conv => rhs; rw [← List.map_id Ps]
        refine List.map_congr_left fun k hk => ?_
        show n - 1 - lg p m (locX p m n k) = k
        rw [hlgk k hk]
        have := hlt k hk
        omega
      rw [this]
    have hfx := fix_at (p := p) (m := m) out locs (magsL p m base (tidy (omL p m (yOf p m base n e) Xs)) locs locs.length) e (fun i hi => by
      have hXm := hmem i hi
      have hXi := hX _ hXm
      have hx := inv_lt h (locs.getD i 0)
      have e1 : gm p m (inv p m (locs.getD i 0)) (locs.getD i 0) = 1 := by rw [gm_comm h hx hXi]; exact gm_inv h (hX0 _ hXm) hXi
      have hlgX := (hpos _ hXm).2
      refine ⟨by omega, ?_⟩
      have e2 : (magsL p m base (tidy (omL p m (yOf p m base n e) Xs)) locs locs.length).getD i 0 = magAt p m base (tidy (omL p m (yOf p m base n e) Xs)) locs i := by
        unfold magsL
        rw [List.getD, List.getElem?_map, List.getElem?_range hi]
        rfl
      have hd := hden i hi
      rw [e2, hon]
      unfold magAt
      rw [val_tidy h hx _ (om_in h _ Xs hX), om_val h _ hx e1 Xs hX hy hN hXm, ← denAt_eq h hlA hp hN hi]
      have hdl : denAt p m locs i < 2 ^ m := denTo_lt h _ _ _
      have hyl := hy _ hXm
      rw [gm_assoc h hyl hdl (inv_lt h _), gm_inv h (by omega) hdl, gm_one h]
      unfold yOf
      have hel := hH.el (n - 1 - lg p m (locs.getD i 0))
      rcases Nat.eq_zero_or_pos base with hb0 | hb0
      · rw [if_pos hb0, hb0, Nat.zero_mul, ex_zero, gm_one h]
      · rw [if_neg (by omega), show base = 1 from by omega, Nat.one_mul, ex_lg h (hX0 _ hXm) hXi, gm_assoc h hel hXi hx, gm_inv h (hX0 _ hXm) hXi, gm_one h]) (hperm.nodup_iff.2 hH.nd) locs.length (Nat.le_refl _)
    refine ext_getD2 (by rw [fix_len, hH.len]) (fun j hj => ?_)
    rw [hfx j, List.take_length]
    by_cases hjP : j ∈ Ps
    · rw [if_pos (hperm.mem_iff.2 hjP), hH.on j hjP, Nat.xor_assoc, Nat.xor_self, Nat.xor_zero]
    · rw [if_neg (fun h1 => hjP (hperm.mem_iff.1 h1)), hH.off j hj hjP]
end
end Go.Proofs.Ytpkmknbmjlnkgaa
