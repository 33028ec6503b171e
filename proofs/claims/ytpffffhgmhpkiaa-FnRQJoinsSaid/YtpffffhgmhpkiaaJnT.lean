/- QR codes: FnRQJoins: bounds of what is joined. -/
import Derived.Test.YtpffffhgmhpkiaaJnQ
namespace Go.Proofs.Ytpffffhgmhpkiaa
open Go.RowKit
set_option linter.unusedVariables false
set_option linter.unusedSimpArgs false

theorem flat_le_mul {α : Type} (f : α → List Nat) (T : Nat) : ∀ l : List α, (∀ x ∈ l, (f x).length ≤ T) → (l.flatMap f).length ≤ l.length * T
  | [], _ => by simp
  | a :: l, h => by
    rw [List.flatMap_cons, List.length_append, List.length_cons, Nat.succ_mul]
    have h1 := h a (by simp)
    have h2 := flat_le_mul f T l (fun x hx => h x (by simp [hx]))
    omega
theorem raw_sum (s P : List Nat) (n : Nat) (hP : Plc P n s.length) (hs : ∀ i, i < n → P.getD i 0 ≤ P.getD (i + 1) 0) : (rawL s P n).length = s.length + n := by
  have h1 := cut_flat s P n hP.first hs
  rw [hP.last, List.take_of_length_le (Nat.le_refl _)] at h1
  have h2 : ∀ i, (rawL s P i).length = ((List.range i).map (cutAt s P)).flatten.length + i := by
    intro i
    induction i with
    | zero => rfl
    | succ i ih =>
      rw [rawL_succ, List.length_append, ih, List.range_succ, List.map_append, List.flatten_append, List.length_append]
      simp
      omega
  rw [h2 n, h1]
/-- What is known of each part. -/
structure QOk (q : QP) : Prop where
  t8 : ∀ x ∈ q.t, x < 256
  r8 : ∀ x ∈ q.r, x < 256
  g8 : ∀ x ∈ q.g.flatten, x < 256
  r1 : 0 ≤ q.s → 1 ≤ q.r.length
  g1 : q.g.length ≤ 17179869184
  gl : ∀ y ∈ q.g, y.length ≤ 17179869184
  sn : -1 ≤ q.s ∧ q.s ≤ 1000
  rl : q.r.length ≤ 17179869184
  fl : q.g.flatten.length ≤ 17179869184
theorem m_facts (s P : List Nat) (n : Nat) (L : List (List Nat)) (M : List QP) (hP : n = 0 ∨ Plc P n s.length ∧ ∀ i, i < n → P.getD i 0 ≤ P.getD (i + 1) 0) (hn : n ≤ 16) (hs : s.length ≤ 2147483647) (hs8 : ∀ x ∈ s, x < 256) (hL : ∀ x ∈ L, x.length ≤ 2147483647) (hL8 : ∀ x ∈ L, ∀ c ∈ x, c < 256)
    (hM : M.Perm (partsL s P n n ++ othL L L.length)) :
    (M.flatMap (·.t)).length ≤ 17179869184 ∧ (M.flatMap (·.r)).length ≤ 17179869184 ∧ (M.flatMap (fun q => q.g.flatten)).length ≤ 17179869184 ∧ (rawL s P n).length ≤ 17179869184 ∧ (∀ c ∈ rawL s P n, c < 256) ∧ ∀ q ∈ M, QOk q := by
  have hraw : (rawL s P n).length ≤ 2147483700 := by
    rcases hP with h | ⟨h1, h2⟩
    · subst h; simp [rawL]
    · rw [raw_sum s P n h1 h2]; omega
  have hcutl : ((List.range n).map (cutAt s P)).flatten.length ≤ 2147483647 := by
    rcases hP with h | ⟨h1, h2⟩
    · subst h; simp
    · rw [cut_flat s P n h1.first h2, h1.last, List.take_of_length_le (Nat.le_refl _)]; exact hs
  have hoth : ∀ q ∈ othL L L.length, ∃ x ∈ L, q = ⟨x, x, [x], -1⟩ := by
    intro q hq
    obtain ⟨x, hx, rfl⟩ := List.mem_map.1 hq
    exact ⟨x, List.mem_of_mem_take (List.mem_of_mem_take hx), rfl⟩
  have holen : (othL L L.length).length ≤ 4 := by unfold othL; rw [List.length_map, List.length_take, List.length_take]; omega
  have hmul : (othL L L.length).length * 2147483647 ≤ 8589934588 := Nat.le_trans (Nat.mul_le_mul_right _ holen) (by decide)
  have e1 : ((partsL s P n n).flatMap (·.t)).length ≤ 2147483647 := by
    unfold partsL; rw [List.flatMap_map, List.flatMap_def]; exact hcutl
  have e2 : ((partsL s P n n).flatMap (·.r)).length ≤ 2147483700 := by
    unfold partsL; rw [List.flatMap_map, List.flatMap_def]; exact hraw
  have e3 : ((partsL s P n n).flatMap (fun q => q.g.flatten)).length ≤ 2147483647 := by
    unfold partsL
    rw [List.flatMap_map, List.flatMap_def]
    have : (fun k => (partL s P n k).g.flatten) = cutAt s P := by funext k; simp [partL]
    rw [this]
    exact hcutl
  have o1 := flat_le_mul (fun q : QP => q.t) 2147483647 (othL L L.length) (fun q hq => by obtain ⟨x, hx, rfl⟩ := hoth q hq; exact hL x hx)
  have o2 := flat_le_mul (fun q : QP => q.r) 2147483647 (othL L L.length) (fun q hq => by obtain ⟨x, hx, rfl⟩ := hoth q hq; exact hL x hx)
  have o3 := flat_le_mul (fun q : QP => q.g.flatten) 2147483647 (othL L L.length) (fun q hq => by obtain ⟨x, hx, rfl⟩ := hoth q hq; simpa using hL x hx)
  refine ⟨?_, ?_, ?_, by omega, ?_, ?_⟩
  · rw [flat_len_perm _ hM, List.flatMap_append, List.length_append]; omega
  · rw [flat_len_perm _ hM, List.flatMap_append, List.length_append]; omega
  · rw [flat_len_perm _ hM, List.flatMap_append, List.length_append]; omega
  · intro c hc
    unfold rawL at hc
    obtain ⟨l, hl, hcl⟩ := List.mem_flatten.1 hc
    obtain ⟨k, hk, rfl⟩ := List.mem_map.1 hl
    have hkn := List.mem_range.1 hk
    rcases List.mem_cons.1 hcl with e | e
    · omega
    · exact hs8 c (cut_mem s P k c e)
  · intro q hq
    rcases List.mem_append.1 (hM.subset hq) with h | h
    · obtain ⟨k, hk, rfl⟩ := List.mem_map.1 h
      have hkn := List.mem_range.1 hk
      have hcl := cut_le s P k
      have hc8 : ∀ x ∈ cutAt s P k, x < 256 := fun x hx => hs8 x (cut_mem s P k x hx)
      refine ⟨hc8, fun x hx => ?_, fun x hx => ?_, fun _ => ?_, ?_, fun y hy => ?_, ?_, ?_, ?_⟩
      · rcases List.mem_cons.1 hx with e | e
        · omega
        · exact hc8 x e
      · exact hc8 x (by simpa [partL] using hx)
      · show 1 ≤ (k :: cutAt s P k).length
        rw [List.length_cons]; omega
      · show ([cutAt s P k] : List (List Nat)).length ≤ _
        simp
      · rw [List.mem_singleton.1 hy]; omega
      · show (-1 : Int) ≤ ((16 * k + (n - 1) : Nat) : Int) ∧ ((16 * k + (n - 1) : Nat) : Int) ≤ 1000
        omega
      · show (k :: cutAt s P k).length ≤ _
        rw [List.length_cons]; omega
      · show ([cutAt s P k] : List (List Nat)).flatten.length ≤ _
        simp; omega
    · obtain ⟨x, hx, rfl⟩ := hoth q h
      have hxl := hL x hx
      refine ⟨hL8 x hx, hL8 x hx, fun y hy => hL8 x hx y (by simpa using hy), fun h => ?_, by simp, fun y hy => ?_, by simp, ?_, ?_⟩
      · have h2 : (0 : Int) ≤ -1 := h
        omega
      · rw [List.mem_singleton.1 hy]; omega
      · show x.length ≤ _
        omega
      · show ([x] : List (List Nat)).flatten.length ≤ _
        simp; omega
theorem want_ok (s P : List Nat) (n : Nat) (M : List QP) (hM : ∀ q ∈ M, QOk q) (hs : s.length ≤ 2147483647) (hs8 : ∀ x ∈ s, x < 256) (hr : (rawL s P n).length ≤ 17179869184) (hr8 : ∀ c ∈ rawL s P n, c < 256) :
    ∀ q ∈ wantL M n s (rawL s P n), (∀ x ∈ q.r, x < 256) ∧ (∀ x ∈ q.g.flatten, x < 256) ∧ q.r.length ≤ 17179869184 ∧ q.g.flatten.length ≤ 17179869184 ∧ q.g.length ≤ 17179869184 := by
  intro q hq
  unfold wantL at hq
  rcases List.mem_append.1 hq with h | h
  · have := hM q (List.mem_filter.1 h).1
    exact ⟨this.r8, this.g8, this.rl, this.fl, this.g1⟩
  · split at h
    · cases h
    · rw [List.mem_singleton.1 h]
      exact ⟨hr8, by simpa using hs8, hr, by simp; omega, by simp⟩
end Go.Proofs.Ytpffffhgmhpkiaa
