/- Words of a code of which at most half as many are others are put right. Plain Lean. -/
import Derived.Test.YtpkmknbmjlnkgaaSerD
import Derived.Test.YtpkmknbmjlnkgaaDecL
import Derived.Test.YtpkmknbmjlnkgaaCodeE
namespace Go.Proofs.Ytpkmknbmjlnkgaa
set_option linter.unusedVariables false

theorem sub_len : ∀ (a b : List Nat), a.Nodup → (∀ x ∈ a, x ∈ b) → a.length ≤ b.length
  | [], b, _, _ => Nat.zero_le _
  | x :: a, b, hn, hs => by
    rw [List.nodup_cons] at hn
    have hxb := hs x (by simp)
    have h1 := sub_len a (b.erase x) hn.2 (fun y hy => (List.mem_erase_of_ne (show y ≠ x from fun e => hn.1 (e ▸ hy))).2 (hs y (by simp [hy])))
    rw [List.length_erase_of_mem hxb] at h1
    have := List.length_pos_of_mem hxb
    simp only [List.length_cons]
    omega
theorem perm_of : ∀ (a b : List Nat), a.Nodup → (∀ x ∈ a, x ∈ b) → b.length ≤ a.length → a.Perm b
  | [], b, _, _, hl => by
    have : b.length = 0 := by simpa using hl
    rw [List.eq_nil_of_length_eq_zero this]
  | x :: a, b, hn, hs, hl => by
    rw [List.nodup_cons] at hn
    have hxb := hs x (by simp)
    have h1 := perm_of a (b.erase x) hn.2 (fun y hy => (List.mem_erase_of_ne (show y ≠ x from fun e => hn.1 (e ▸ hy))).2 (hs y (by simp [hy]))) (by
      rw [List.length_erase_of_mem hxb]
      simp only [List.length_cons] at hl
      omega)
    exact (h1.cons x).trans (List.perm_cons_erase hxb).symm

section
variable {p m : Nat} {h : IsGF p m}
theorem pow_ex (h : IsGF p m) (a : Nat) : ∀ t, powTo p m (ex p m a) t = ex p m (a * t)
  | 0 => rfl
  | t + 1 => by
    show gm p m (powTo p m (ex p m a) t) (ex p m a) = _
    rw [pow_ex h a t, gm_exex h, Nat.mul_succ]
/-- The words differ at Ps, there by e. -/
structure Hurt (m : Nat) (c out Ps : List Nat) (e : Nat → Nat) : Prop where
  nd : Ps.Nodup
  lt : ∀ k ∈ Ps, k < c.length
  len : out.length = c.length
  all : AllIn m out
  off : ∀ k, k < c.length → k ∉ Ps → out.getD k 0 = c.getD k 0
  on : ∀ k ∈ Ps, out.getD k 0 = c.getD k 0 ^^^ e k
  el : ∀ k, e k < 2 ^ m
def sumP (p m x n : Nat) (e : Nat → Nat) : List Nat → Nat
  | [] => 0
  | k :: Ps => gm p m (e k) (powTo p m x (n - 1 - k)) ^^^ sumP p m x n e Ps
theorem getD_set (l : List Nat) (k j v : Nat) (hk : k < l.length) : (l.set k v).getD j 0 = if j = k then v else l.getD j 0 := by
  by_cases hjk : j = k
  · subst hjk
    rw [if_pos rfl, List.getD, List.getElem?_set_self hk]
    rfl
  · rw [if_neg hjk, List.getD, List.getElem?_set_ne (fun e => hjk e.symm), List.getD]
theorem ext_getD2 {a b : List Nat} (hl : a.length = b.length) (hh : ∀ k, k < b.length → a.getD k 0 = b.getD k 0) : a = b := by
  apply List.ext_getElem hl
  intro k h1 h2
  have := hh k h2
  rwa [List.getD, List.getD, List.getElem?_eq_getElem h1, List.getElem?_eq_getElem h2] at this
theorem val_hurt (h : IsGF p m) {c : List Nat} (hc : AllIn m c) {e : Nat → Nat} {x : Nat} (hx : x < 2 ^ m) : ∀ (Ps out : List Nat), Hurt m c out Ps e → valAt p m x out = valAt p m x c ^^^ sumP p m x c.length e Ps
  | [], out, H => by
    rw [sumP, Nat.xor_zero, ext_getD2 H.len (fun k hk => H.off k hk (by simp))]
  | P :: Ps, out, H => by
    have hP := H.lt P (by simp)
    have hnd := H.nd
    rw [List.nodup_cons] at hnd
    have H2 : Hurt m c (out.set P (c.getD P 0)) Ps e := by
      refine ⟨hnd.2, fun k hk => H.lt k (by simp [hk]), by rw [List.length_set, H.len], fun y hy => ?_, fun k hk hkP => ?_, fun k hk => ?_, H.el⟩
      · rcases List.mem_or_eq_of_mem_set hy with h1 | h1
        · exact H.all y h1
        · rw [h1]; exact getD_lt h hc P
      · rw [getD_set _ _ _ _ (by rw [H.len]; exact hP)]
        split
        · rename_i e1; rw [e1]
        · rename_i e1
          exact H.off k hk (by simp [e1, hkP])
      · have hne : k ≠ P := fun e1 => hnd.1 (e1 ▸ hk)
        rw [getD_set _ _ _ _ (by rw [H.len]; exact hP), if_neg hne]
        exact H.on k (by simp [hk])
    have ih := val_hurt h hc hx Ps _ H2
    have hlen2 : (out.set P (c.getD P 0)).length = c.length := by rw [List.length_set, H.len]
    have e1 : out = (out.set P (c.getD P 0)).set P ((out.set P (c.getD P 0)).getD P 0 ^^^ e P) := by
      refine ext_getD2 (by simp) (fun k hk => ?_)
      rw [getD_set _ _ _ _ (by rw [hlen2]; exact hP), getD_set _ _ P _ (by rw [H.len]; exact hP), if_pos rfl]
      split
      · rename_i e2; rw [e2]; exact H.on P (by simp)
      · rename_i e2
        rw [getD_set _ _ _ _ (by rw [H.len]; exact hP), if_neg e2]
    have e2 := val_set h hx H2.all (k := P) (v := e P) (by rw [hlen2]; exact hP) (H.el P)
    rw [← e1, hlen2, ih] at e2
    rw [e2, sumP, Nat.xor_assoc, Nat.xor_comm (sumP p m x c.length e Ps)]

/-- The place's element, and what stands for the error there. -/
def locX (p m n k : Nat) : Nat := ex p m (n - 1 - k)
def yOf (p m base n : Nat) (e : Nat → Nat) (X : Nat) : Nat := gm p m (e (n - 1 - lg p m X)) (ex p m (base * lg p m X))
theorem sum_at (h : IsGF p m) (base n : Nat) (hn : n ≤ 2 ^ m - 1) (e : Nat → Nat) (he : ∀ k, e k < 2 ^ m) (i : Nat) : ∀ Ps : List Nat, (∀ k ∈ Ps, k < n) → sumS h (yOf p m base n e) (Ps.map (locX p m n)) i = mkK h (sumP p m (ex p m (i + base)) n e Ps)
  | [], _ => by rw [sumP, mk_zero]; rfl
  | k :: Ps, hk => by
    have hkn := hk k (by simp)
    have hlg : lg p m (locX p m n k) = n - 1 - k := lg_ex h (by omega)
    rw [List.map_cons, sumS, sadd_at, sum_at h base n hn e he i Ps (fun j hj => hk j (by simp [hj])), sumP, mk_xor, sc_at]
    congr 1
    show mkK h (yOf p m base n e (locX p m n k)) * mkK h (powTo p m (locX p m n k) i) = _
    unfold yOf
    rw [hlg, show n - 1 - (n - 1 - k) = k from by omega, ← mk_gm (gm_lt h (he k) _) (powTo_lt h i), locX, pow_ex h, pow_ex h, gm_assoc h (he k) (ex_lt h _) (ex_lt h _), gm_exex h]
    congr 3
    rw [Nat.add_mul, Nat.mul_comm i, Nat.add_comm]
theorem syn_ser (h : IsGF p m) (base : Nat) (l : List Nat) : ∀ k i, i < k → ser h (synL p m base l k) i = mkK h (valAt p m (ex p m (i + base)) l)
  | 0, i, hi => by omega
  | k + 1, i, hi => by
    rw [synL, ser_cons, sadd_at, syn_len]
    rcases Nat.lt_or_ge i k with h1 | h1
    · rw [shn_low _ _ _ h1, kzero_add, syn_ser h base l k i h1]
    · obtain rfl : i = k := by omega
      have e1 := shn_at (h := h) i (cS (mkK h (valAt p m (ex p m (i + base)) l))) 0
      rw [Nat.add_zero] at e1
      rw [e1, ser_deg i _ (syn_len base l i) i (Nat.le_refl _), kadd_zero, c_zero]
theorem sum_perm (h : IsGF p m) (y : Nat → Nat) {a b : List Nat} (hp : a.Perm b) : sumS h y a = sumS h y b := by
  induction hp with
  | nil => rfl
  | cons x _ ih => rw [sumS, sumS, ih]
  | swap x z l => rw [sumS, sumS, sumS, sumS]; ac_rfl
  | trans _ _ ih1 ih2 => rw [ih1, ih2]

/-- The inverses of the roots are the places. -/
theorem root_iff (h : IsGF p m) {x : Nat} (hx : x < 2 ^ m) : ∀ Xs : List Nat, AllIn m Xs → valAt p m x (lamL p m Xs) = 0 → ∃ X ∈ Xs, gm p m x X = 1 := by
  intro Xs hX e
  rw [lam_val h hx Xs hX] at e
  refine Classical.byContradiction fun hn => den_ne h hx Xs (fun X hXm e1 => hn ⟨X, hXm, e1⟩) e
theorem inv_uniq (h : IsGF p m) {x X : Nat} (hx : x < 2 ^ m) (hX : X < 2 ^ m) (h0 : 0 < x) (e : gm p m x X = 1) : X = inv p m x := by
  have e2 := congrArg (gm p m (inv p m x)) e
  rw [← gm_assoc h (inv_lt h x) hx hX, gm_comm h (inv_lt h x) hx, gm_inv h h0 hx, one_gm h hX, gm_one h] at e2
  exact e2
theorem inv_inv (h : IsGF p m) {x : Nat} (hx : x < 2 ^ m) (h0 : 0 < x) : inv p m (inv p m x) = x := by
  refine (inv_uniq h (inv_lt h x) hx (inv_pos h x) ?_).symm
  rw [gm_comm h (inv_lt h x) hx]
  exact gm_inv h h0 hx
theorem locTo_mem (h : IsGF p m) (sg : List Nat) (N : Nat) : ∀ k, ∀ x ∈ locTo p m sg N k, ∃ i, 0 < i ∧ i ≤ k ∧ x = inv p m i ∧ valAt p m i sg = 0
  | 0, x, hx => by simp [locTo] at hx
  | k + 1, x, hx => by
    rw [locTo] at hx
    split at hx
    · rename_i hc
      rcases List.mem_append.1 hx with h1 | h1
      · obtain ⟨i, a1, a2, a3, a4⟩ := locTo_mem h sg N k x h1
        exact ⟨i, a1, by omega, a3, a4⟩
      · exact ⟨k + 1, by omega, by omega, List.mem_singleton.1 h1, hc.2⟩
    · obtain ⟨i, a1, a2, a3, a4⟩ := locTo_mem h sg N k x hx
      exact ⟨i, a1, by omega, a3, a4⟩
theorem locTo_nodup (h : IsGF p m) (sg : List Nat) (N : Nat) : ∀ k, k < 2 ^ m → (locTo p m sg N k).Nodup
  | 0, _ => by simp [locTo]
  | k + 1, hk => by
    have ih := locTo_nodup h sg N k (by omega)
    rw [locTo]
    split
    · rw [List.nodup_append]
      refine ⟨ih, by simp, fun a ha b hb e => ?_⟩
      rw [List.mem_singleton.1 hb] at e
      obtain ⟨i, a1, a2, a3, a4⟩ := locTo_mem h sg N k a ha
      have := congrArg (inv p m) (a3.symm.trans e)
      rw [inv_inv h (by omega) a1, inv_inv h hk (by omega)] at this
      omega
    · exact ih
theorem locTo_all (h : IsGF p m) (sg : List Nat) (N : Nat) : ∀ k, (locTo p m sg N k).length < N → ∀ i, 0 < i → i ≤ k → valAt p m i sg = 0 → inv p m i ∈ locTo p m sg N k
  | 0, _, i, h0, hi, _ => by omega
  | k + 1, hl, i, h0, hi, hv => by
    rw [locTo] at hl ⊢
    by_cases hc : (locTo p m sg N k).length < N ∧ valAt p m (k + 1) sg = 0
    · rw [if_pos hc] at hl ⊢
      rcases Nat.lt_or_ge i (k + 1) with h1 | h1
      · exact List.mem_append_left _ (locTo_all h sg N k hc.1 i h0 (by omega) hv)
      · rw [show i = k + 1 from by omega]; simp
    · rw [if_neg hc] at hl ⊢
      rcases Nat.lt_or_ge i (k + 1) with h1 | h1
      · exact locTo_all h sg N k hl i h0 (by omega) hv
      · exact absurd ⟨hl, (show i = k + 1 by omega) ▸ hv⟩ hc
/-- The search finds the places, in some order. -/
theorem locs_found (h : IsGF p m) {Xs : List Nat} (hX : AllIn m Xs) (hX0 : ∀ X ∈ Xs, 0 < X) (hN : Xs.Nodup) (hv : 1 ≤ Xs.length) : ∃ locs, locsOf p m (lamL p m Xs) = some locs ∧ locs.Perm Xs := by
  have hl := lam_len (p := p) (m := m) Xs
  unfold locsOf
  rw [hl, Nat.add_sub_cancel]
  split
  · rename_i h1
    obtain ⟨X, rfl⟩ : ∃ X, Xs = [X] := by
      match Xs, h1 with
      | [X], _ => exact ⟨X, rfl⟩
    refine ⟨_, rfl, ?_⟩
    have e : lamL p m [X] = [X, 1] := by
      have hg := lam_good h hX hX0
      refine tidy_of_ser (h := h) ⟨hg.1, hg.2.1, hg.2.2.1, Nat.le_refl _⟩ ⟨tidy_first (.inl (by have := hX0 X (by simp); simp; omega)) (by simp), fac_in h (hX X (by simp)), by simp, by simp⟩ ?_
      rw [ser_lam h hX, lamL, ser_one, mk_one]
      exact smul_one _
    rw [e]
    exact List.Perm.refl _
  · have hsub : ∀ x ∈ locTo p m (lamL p m Xs) Xs.length (2 ^ m - 1), x ∈ Xs := by
      intro x hx
      obtain ⟨i, a1, a2, a3, a4⟩ := locTo_mem h _ _ _ x hx
      have hi : i < 2 ^ m := by have := Nat.two_pow_pos m; omega
      obtain ⟨X, hXm, e⟩ := root_iff h hi Xs hX a4
      rw [a3, ← inv_uniq h hi (hX X hXm) a1 e]
      exact hXm
    have hnd := locTo_nodup h (lamL p m Xs) Xs.length (2 ^ m - 1) (by have := Nat.two_pow_pos m; omega)
    have hlen : (locTo p m (lamL p m Xs) Xs.length (2 ^ m - 1)).length = Xs.length := by
      have h1 := locTo_le (p := p) (m := m) (lamL p m Xs) Xs.length (2 ^ m - 1)
      rcases Nat.lt_or_ge (locTo p m (lamL p m Xs) Xs.length (2 ^ m - 1)).length Xs.length with h2 | h2
      · exfalso
        have h3 := sub_len Xs (locTo p m (lamL p m Xs) Xs.length (2 ^ m - 1)) hN (fun X hXm => by
          have hXl := hX X hXm
          have e0 : gm p m (inv p m X) X = 1 := by rw [gm_comm h (inv_lt h X) hXl]; exact gm_inv h (hX0 X hXm) hXl
          have h4 := locTo_all h (lamL p m Xs) Xs.length (2 ^ m - 1) h2 (inv p m X) (inv_pos h X) (by have := inv_lt h X; omega) (by rw [lam_val h (inv_lt h X) Xs hX]; exact den_root h (inv_lt h X) e0 Xs hXm)
          rwa [inv_inv h hXl (hX0 X hXm)] at h4)
        omega
      · omega
    rw [if_pos hlen]
    exact ⟨_, rfl, perm_of _ _ hnd hsub (by omega)⟩
end
end Go.Proofs.Ytpkmknbmjlnkgaa
