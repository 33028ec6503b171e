/- QR codes: FnRQJoins: what is joined, in plain Lean. -/
import Derived.Test.YtpffffhgmhpkiaaJnS
namespace Go.Proofs.Ytpffffhgmhpkiaa
open Go.RowKit
set_option linter.unusedVariables false
set_option linter.unusedSimpArgs false

/-- A part as a result, and back. -/
def cv (q : QP) : RV := ⟨q.t, q.r, if q.g.length = 0 then none else some q.g, if 0 ≤ q.s then some q.s else none⟩
def bk (x : RV) : QP := ⟨x.t, x.r, x.g.getD [], x.s.getD (-1)⟩
def segF (x : RV) : List Nat := (x.g.getD []).flatten
def joinR (S : List RV) : RV := ⟨S.flatMap (·.t), S.flatMap (·.r), if (S.flatMap segF).length = 0 then none else some [S.flatMap segF], none⟩
def isSA (x : RV) : Bool := x.s.isSome
/-- What becomes of results. -/
def Joined (L out : List RV) : Prop :=
  ((∀ x ∈ L, isSA x = false) ∧ out = L) ∨ ∃ S : List RV, S.Perm (L.filter isSA) ∧ S.Pairwise (fun a b => ¬ sNum b < sNum a) ∧ (∃ x ∈ L, isSA x = true) ∧ out = L.filter (fun x => !isSA x) ++ [joinR S]
theorem isSA_cv (q : QP) : isSA (cv q) = decide (0 ≤ q.s) := by
  unfold isSA cv
  by_cases h : 0 ≤ q.s <;> simp [h]
theorem sNum_cv (q : QP) (h : 0 ≤ q.s) : sNum (cv q) = q.s := by simp [sNum, cv, h]
theorem segF_cv (q : QP) : segF (cv q) = q.g.flatten := by
  unfold segF cv
  by_cases h : q.g.length = 0
  · have := List.eq_nil_of_length_eq_zero h
    simp [this]
  · simp [h]
theorem bk_cv (q : QP) (h : q.s = -1) : bk (cv q) = q := by
  obtain ⟨t, r, g, s⟩ := q
  simp only at h
  subst h
  unfold bk cv
  by_cases h : g.length = 0
  · have := List.eq_nil_of_length_eq_zero h
    simp [this]
  · simp [h]
theorem sorted_uni {α : Type} (f : α → Int) : ∀ (A B : List α), A.Perm B → A.Pairwise (fun a b => ¬ f b < f a) → B.Pairwise (fun a b => f a < f b) → A = B
  | [], B, h, _, _ => (List.nil_perm.1 h).symm
  | a :: A, [], h, _, _ => absurd h.length_eq (by simp)
  | a :: A, b :: B, h, h1, h2 => by
    have ha : a ∈ b :: B := h.subset (by simp)
    have hb : b ∈ a :: A := h.symm.subset (by simp)
    have hab : a = b := by
      rcases List.mem_cons.1 ha with e | e
      · exact e
      · rcases List.mem_cons.1 hb with e2 | e2
        · exact e2.symm
        · exact absurd ((List.pairwise_cons.1 h2).1 a e) ((List.pairwise_cons.1 h1).1 b e2)
    subst hab
    rw [sorted_uni f A B (List.Perm.cons_inv h) (List.pairwise_cons.1 h1).2 (List.pairwise_cons.1 h2).2]
def Same (a b : QP) : Prop := a.t = b.t ∧ a.r = b.r ∧ a.s = b.s ∧ a.g.flatten = b.g.flatten
/-- What is wanted. -/
def wantL (M : List QP) (n : Nat) (text raw : List Nat) : List QP := M.filter (fun q => decide (q.s < 0)) ++ (if n = 0 then [] else [⟨text, raw, [text], -1⟩])
theorem filter_cv (M : List QP) : (M.map cv).filter isSA = (M.filter fun q => decide (0 ≤ q.s)).map cv := by
  rw [List.filter_map]
  congr 1
  apply List.filter_congr
  intro q _
  exact isSA_cv q
theorem filter_cv2 (M : List QP) : (M.map cv).filter (fun x => !isSA x) = (M.filter fun q => decide (q.s < 0)).map cv := by
  rw [List.filter_map]
  congr 1
  apply List.filter_congr
  intro q _
  show (!isSA (cv q)) = _
  rw [isSA_cv]
  by_cases h : 0 ≤ q.s
  · simp [h]
  · simp [h]; omega
theorem pw_same (A : List QP) (hA : ∀ q ∈ A, q.s = -1) (i : Nat) (x : RV) (q : QP) (hx : (A.map cv)[i]? = some x) (hq : A[i]? = some q) : Same (bk x) q := by
  rw [List.getElem?_map, hq, Option.map_some, Option.some.injEq] at hx
  rw [← hx, bk_cv q (hA q (List.mem_of_getElem? hq))]
  exact ⟨rfl, rfl, rfl, rfl⟩
theorem law_joined (P O M : List QP) (text raw : List Nat) (out : List RV) (hM : M.Perm (P ++ O)) (hP : ∀ q ∈ P, 0 ≤ q.s) (hinc : P.Pairwise (fun a b => a.s < b.s)) (hO : ∀ q ∈ O, q.s = -1)
    (ht : P.flatMap (·.t) = text) (hr : P.flatMap (·.r) = raw) (hg : P.flatMap (fun q => q.g.flatten) = text) (hJ : Joined (M.map cv) out) :
    out.length = (wantL M P.length text raw).length ∧ ∀ (i : Nat) (x : RV) (q : QP), out[i]? = some x → (wantL M P.length text raw)[i]? = some q → Same (bk x) q := by
  have hF : ∀ q ∈ M.filter (fun q => decide (q.s < 0)), q.s = -1 := by
    intro q hq
    obtain ⟨h1, h2⟩ := List.mem_filter.1 hq
    have h3 := of_decide_eq_true h2
    rcases List.mem_append.1 (hM.subset h1) with h4 | h4
    · have := hP q h4; omega
    · exact hO q h4
  rcases hJ with ⟨hn, rfl⟩ | ⟨S, hS, hSo, ⟨x0, hx0, hs0⟩, rfl⟩
  · have hall : ∀ q ∈ M, q.s < 0 := by
      intro q hq
      have := hn (cv q) (List.mem_map_of_mem hq)
      rw [isSA_cv] at this
      have := of_decide_eq_false this
      omega
    have hPn : P = [] := by
      cases P with
      | nil => rfl
      | cons a P =>
        have h1 := hall a (hM.symm.subset (by simp))
        have h2 := hP a (by simp)
        omega
    subst hPn
    have hMf : M.filter (fun q => decide (q.s < 0)) = M := List.filter_eq_self.2 (fun q hq => decide_eq_true (hall q hq))
    unfold wantL
    rw [hMf] at hF ⊢
    simp only [List.length_nil, if_true, List.append_nil]
    exact ⟨by simp, pw_same M hF⟩
  · obtain ⟨q0, hq0, rfl⟩ := List.mem_map.1 hx0
    rw [isSA_cv] at hs0
    have hs1 := of_decide_eq_true hs0
    have hPl : P.length ≠ 0 := by
      intro h
      have hPn := List.eq_nil_of_length_eq_zero h
      subst hPn
      have := hO q0 (by simpa using hM.subset hq0)
      omega
    have e1 : (P ++ O).filter (fun q => decide (0 ≤ q.s)) = P := by
      rw [List.filter_append, List.filter_eq_self.2 (fun q hq => decide_eq_true (hP q hq)), List.filter_eq_nil_iff.2 (fun q hq => by rw [hO q hq]; decide), List.append_nil]
    have hS2 : S.Perm (P.map cv) := by
      rw [filter_cv] at hS
      refine hS.trans (List.Perm.map _ ?_)
      have := hM.filter (fun q => decide (0 ≤ q.s))
      rwa [e1] at this
    have hSe : S = P.map cv := by
      refine sorted_uni sNum _ _ hS2 hSo ?_
      rw [List.pairwise_map]
      refine hinc.imp_of_mem ?_
      intro a b ha hb hab
      rw [sNum_cv a (hP a ha), sNum_cv b (hP b hb)]
      exact hab
    subst hSe
    have hj : Same (bk (joinR (P.map cv))) ⟨text, raw, [text], -1⟩ := by
      have hsg : (P.map cv).flatMap segF = text := by
        rw [List.flatMap_map]
        simp only [segF_cv]
        exact hg
      refine ⟨?_, ?_, ?_, ?_⟩
      · show (P.map cv).flatMap _ = _
        rw [List.flatMap_map]; exact ht
      · show (P.map cv).flatMap _ = _
        rw [List.flatMap_map]; exact hr
      · rfl
      · show (Option.getD (if ((P.map cv).flatMap segF).length = 0 then none else some [(P.map cv).flatMap segF]) []).flatten = [text].flatten
        rw [hsg]
        by_cases h : text.length = 0
        · rw [List.eq_nil_of_length_eq_zero h]; rfl
        · rw [if_neg h]; rfl
    rw [filter_cv2]
    unfold wantL
    rw [if_neg hPl]
    refine ⟨by simp, fun i x q hx hq => ?_⟩
    rcases Nat.lt_or_ge i (M.filter fun q : QP => decide (q.s < 0)).length with hl | hl
    · rw [List.getElem?_append_left (by simpa using hl)] at hx
      rw [List.getElem?_append_left hl] at hq
      exact pw_same _ hF i x q hx hq
    · rw [List.getElem?_append_right (by simpa using hl), List.length_map] at hx
      rw [List.getElem?_append_right hl] at hq
      have hi : i - (M.filter fun q : QP => decide (q.s < 0)).length = 0 := by
        have := (List.getElem?_eq_some_iff.1 hq).1
        simpa using this
      rw [hi] at hx hq
      simp only [List.getElem?_cons_zero, Option.some.injEq] at hx hq
      rw [← hx, ← hq]
      exact hj
/-- One more thing taken from those that are left. -/
theorem ord_step {out left R : List Nat} (h : (out ++ left).Perm R) (k : Nat) (hk : k < left.length) : ((out ++ [left.getD k 0]) ++ (left.take k ++ left.drop (k + 1))).Perm R := by
  refine List.Perm.trans ?_ h
  rw [List.append_assoc]
  refine List.Perm.append_left _ ?_
  have e : left = left.take k ++ left.getD k 0 :: left.drop (k + 1) := by
    rw [List.getD, List.getElem?_eq_getElem hk]
    simp
  conv => rhs; rw [e]
  simpa using (List.perm_middle (a := left.getD k 0) (l₁ := left.take k) (l₂ := left.drop (k + 1))).symm
theorem ord_map {α : Type} (l : List α) (d : α) (o : List Nat) (h : o.Perm (List.range l.length)) : (o.map fun i => l.getD i d).Perm l := by
  have h1 := h.map (fun i => l.getD i d)
  have e : (List.range l.length).map (fun i => l.getD i d) = l := by
    apply List.ext_getElem
    · simp
    · intro i i1 i2
      simp [List.getD, List.getElem?_eq_getElem i2]
  rwa [e] at h1
/-- A text cut at places. -/
def cutAt (s : List Nat) (p : List Nat) (i : Nat) : List Nat := (s.take (p.getD (i + 1) 0)).drop (p.getD i 0)
theorem cut_flat (s p : List Nat) : ∀ (n : Nat), p.getD 0 0 = 0 → (∀ i, i < n → p.getD i 0 ≤ p.getD (i + 1) 0) → ((List.range n).map (cutAt s p)).flatten = s.take (p.getD n 0)
  | 0, h0, _ => by rw [h0]; simp
  | n + 1, h0, hs => by
    rw [List.range_succ, List.map_append, List.flatten_append, cut_flat s p n h0 (fun i hi => hs i (by omega))]
    have := hs n (by omega)
    simp only [List.map_cons, List.map_nil, List.flatten_cons, List.flatten_nil, List.append_nil, cutAt]
    have e : s.take (p.getD n 0) = (s.take (p.getD (n + 1) 0)).take (p.getD n 0) := by rw [List.take_take, Nat.min_eq_left this]
    rw [e, List.take_append_drop]
/-- Sorted from 1 to i, but for what stands at k. -/
def Srt (P : List Nat) (i k : Nat) : Prop := ∀ a b, 1 ≤ a → a < b → b ≤ i → b ≠ k → P.getD a 0 ≤ P.getD b 0
theorem getD_set (P : List Nat) (k v j : Nat) (h : k < P.length) : (P.set k v).getD j 0 = if j = k then v else P.getD j 0 := by
  simp only [List.getD, List.getElem?_set]
  by_cases e : k = j
  · subst e; simp [h]
  · simp [e, Ne.symm e]
def swp (P : List Nat) (k : Nat) : List Nat := (P.set k (P.getD (k - 1) 0)).set (k - 1) (P.getD k 0)
theorem swp_len (P : List Nat) (k : Nat) : (swp P k).length = P.length := by simp [swp]
theorem swp_at (P : List Nat) (k j : Nat) (h1 : 1 ≤ k) (hk : k < P.length) : (swp P k).getD j 0 = if j = k - 1 then P.getD k 0 else if j = k then P.getD (k - 1) 0 else P.getD j 0 := by
  unfold swp
  rw [getD_set _ _ _ _ (by simp; omega), getD_set _ _ _ _ hk]
theorem srt_swap {P : List Nat} {i k : Nat} (h : Srt P i k) (hk : 1 < k) (hki : k ≤ i) (hi : i < P.length) (hlt : P.getD k 0 < P.getD (k - 1) 0) : Srt (swp P k) i (k - 1) := by
  intro a b h1 h2 h3 h4
  rw [swp_at P k a (by omega) (by omega), swp_at P k b (by omega) (by omega)]
  rw [if_neg h4]
  by_cases hb : b = k
  · subst hb
    rw [if_pos rfl]
    by_cases ha : a = b - 1
    · rw [if_pos ha]; omega
    · rw [if_neg ha, if_neg (by omega)]
      exact h a (b - 1) h1 (by omega) (by omega) (by omega)
  · rw [if_neg hb]
    by_cases ha : a = k - 1
    · rw [if_pos ha]
      exact h k b (by omega) (by omega) h3 hb
    · rw [if_neg ha]
      by_cases ha2 : a = k
      · rw [if_pos ha2]
        exact h (k - 1) b (by omega) (by omega) h3 hb
      · rw [if_neg ha2]
        exact h a b h1 h2 h3 hb
theorem srt_done {P : List Nat} {i k : Nat} (h : Srt P i k) (hk : k ≤ 1 ∨ ¬ P.getD k 0 < P.getD (k - 1) 0) : ∀ a b, 1 ≤ a → a < b → b ≤ i → P.getD a 0 ≤ P.getD b 0 := by
  intro a b h1 h2 h3
  by_cases hb : b = k
  · subst hb
    rcases hk with hk | hk
    · omega
    · by_cases ha : a = b - 1
      · rw [ha]; omega
      · have := h a (b - 1) h1 (by omega) (by omega) (by omega)
        omega
  · exact h a b h1 h2 h3 hb
theorem srt_next {P : List Nat} {i : Nat} (h : ∀ a b, 1 ≤ a → a < b → b ≤ i → P.getD a 0 ≤ P.getD b 0) : Srt P (i + 1) (i + 1) := by
  intro a b h1 h2 h3 h4
  exact h a b h1 h2 (by omega)
/-- Places: the first is 0, the last the end, none is beyond. -/
structure Plc (P : List Nat) (n t : Nat) : Prop where
  len : P.length = n + 1
  first : P.getD 0 0 = 0
  last : P.getD n 0 = t
  le : ∀ i, P.getD i 0 ≤ t
theorem Plc.swp {P : List Nat} {n t k : Nat} (h : Plc P n t) (hk : 1 < k) (hn : k < n) : Plc (swp P k) n t := by
  have hl := h.len
  refine ⟨by rw [swp_len]; exact h.len, ?_, ?_, fun i => ?_⟩
  · rw [swp_at P k 0 (by omega) (by omega), if_neg (by omega), if_neg (by omega)]; exact h.first
  · rw [swp_at P k n (by omega) (by omega), if_neg (by omega), if_neg (by omega)]; exact h.last
  · rw [swp_at P k i (by omega) (by omega)]
    split
    · exact h.le k
    · split
      · exact h.le (k - 1)
      · exact h.le i
theorem Plc.set {P : List Nat} {n t k v : Nat} (h : Plc P n t) (hk : 1 ≤ k) (hn : k < n) (hv : v ≤ t) : Plc (P.set k v) n t := by
  have hl := h.len
  refine ⟨by simpa using h.len, ?_, ?_, fun i => ?_⟩
  · rw [getD_set P k v 0 (by omega), if_neg (by omega)]; exact h.first
  · rw [getD_set P k v n (by omega), if_neg (by omega)]; exact h.last
  · rw [getD_set P k v i (by omega)]
    split
    · exact hv
    · exact h.le i
theorem Plc.start (n t : Nat) (hn : 1 ≤ n) : Plc ((List.replicate (n + 1) 0).set n t) n t := by
  refine ⟨by simp, ?_, ?_, fun i => ?_⟩
  · rw [getD_set _ _ _ _ (by simp), if_neg (by omega)]
    simp [List.getD, List.getElem?_replicate]
  · rw [getD_set _ _ _ _ (by simp), if_pos rfl]
  · rw [getD_set _ _ _ _ (by simp)]
    split
    · exact Nat.le_refl _
    · simp only [List.getD, List.getElem?_replicate]
      split <;> simp
/-- Sorted whole. -/
theorem Plc.sorted {P : List Nat} {n t : Nat} (h : Plc P n t) (hs : ∀ a b, 1 ≤ a → a < b → b ≤ n - 1 → P.getD a 0 ≤ P.getD b 0) : ∀ i, i < n → P.getD i 0 ≤ P.getD (i + 1) 0 := by
  intro i hi
  by_cases h0 : i = 0
  · subst h0; rw [h.first]; exact Nat.zero_le _
  · by_cases h1 : i + 1 = n
    · rw [h1, h.last]; exact h.le i
    · exact hs i (i + 1) (by omega) (by omega) (by omega)
end Go.Proofs.Ytpffffhgmhpkiaa
