/- What decoding comes to, as a relation. Plain Lean. -/
import Derived.Test.YtpkmknbmjlnkgaaMagW
namespace Go.Proofs.Ytpkmknbmjlnkgaa
set_option linter.unusedVariables false

/-- The syndromes, the first k of them, the last one first. -/
def synL (p m base : Nat) (l : List Nat) : Nat → List Nat
  | 0 => []
  | k + 1 => valAt p m (ex p m (k + base)) l :: synL p m base l k
/-- The words with the first k corrections. -/
def fixL (p m : Nat) (l locs mags : List Nat) : Nat → List Nat
  | 0 => l
  | k + 1 => (fixL p m l locs mags k).set (l.length - 1 - lg p m (locs.getD k 0)) ((fixL p m l locs mags k).getD (l.length - 1 - lg p m (locs.getD k 0)) 0 ^^^ mags.getD k 0)

def AllZ (p m base R : Nat) (l : List Nat) : Prop := ∀ i, i < R → valAt p m (ex p m (i + base)) l = 0
/-- The corrections, or none. -/
def FixRel (p m base : Nat) (l locs om : List Nat) (o : Option (List Nat)) : Prop :=
  ((∃ i, i < locs.length ∧ denAt p m locs i = 0) ∧ o = none) ∨
  ((∀ i, i < locs.length → denAt p m locs i ≠ 0) ∧
    (((∃ k, k < locs.length ∧ l.length ≤ lg p m (locs.getD k 0)) ∧ o = none) ∨
     ((∀ k, k < locs.length → lg p m (locs.getD k 0) < l.length) ∧ o = some (fixL p m l locs (magsL p m base om locs locs.length) locs.length))))
def EndRel (p m base : Nat) (l sg om : List Nat) (o : Option (List Nat)) : Prop :=
  (locsOf p m sg = none ∧ o = none) ∨ ∃ locs, locsOf p m sg = some locs ∧ FixRel p m base l locs om o
/-- What decoding comes to. -/
def DecRel (p m base R : Nat) (l : List Nat) (o : Option (List Nat)) : Prop :=
  (AllZ p m base R l ∧ o = some l) ∨
  (¬ AllZ p m base R l ∧ ∃ rl r tl t, Eucs p m R (monoL 1 R) (tidy (synL p m base l R)) rl r tl t ∧ 2 * (r.length - 1) < R ∧
    ((t.getD (t.length - 1) 0 = 0 ∧ o = none) ∨
     (t.getD (t.length - 1) 0 ≠ 0 ∧ EndRel p m base l (tidy (scaleBy p m (inv p m (t.getD (t.length - 1) 0)) t)) (tidy (scaleBy p m (inv p m (t.getD (t.length - 1) 0)) r)) o)))

section
variable {p m : Nat}
theorem syn_len (base : Nat) (l : List Nat) : ∀ k, (synL p m base l k).length = k
  | 0 => rfl
  | k + 1 => by rw [synL, List.length_cons, syn_len base l k]
theorem syn_in (h : IsGF p m) (base : Nat) {l : List Nat} (hl : AllIn m l) : ∀ k, AllIn m (synL p m base l k)
  | 0, x, hx => by simp [synL] at hx
  | k + 1, x, hx => by
    rcases List.mem_cons.1 hx with h1 | h1
    · rw [h1]; exact val_lt h (ex_lt h _) hl
    · exact syn_in h base hl k x h1
theorem fix_len (l locs mags : List Nat) : ∀ k, (fixL p m l locs mags k).length = l.length
  | 0 => rfl
  | k + 1 => by rw [fixL, List.length_set, fix_len l locs mags k]
theorem fix_in (h : IsGF p m) {l locs mags : List Nat} (hl : AllIn m l) (hm : AllIn m mags) : ∀ k, AllIn m (fixL p m l locs mags k)
  | 0 => hl
  | k + 1 => fun x hx => by
    have ih := fix_in h (locs := locs) hl hm k
    rw [fixL] at hx
    rcases List.mem_or_eq_of_mem_set hx with h1 | h1
    · exact ih x h1
    · rw [h1]; exact Nat.xor_lt_two_pow (getD_lt h ih _) (getD_lt h hm _)
theorem mags_in (h : IsGF p m) (base : Nat) {om : List Nat} (ho : AllIn m om) (locs : List Nat) (k : Nat) : AllIn m (magsL p m base om locs k) := fun x hx => by
  obtain ⟨i, _, rfl⟩ := List.mem_map.1 hx
  exact magAt_lt h base ho i
theorem locsOf_in (h : IsGF p m) {sg locs : List Nat} (hT : tidy sg = sg) (hA : AllIn m sg) (e : locsOf p m sg = some locs) : ∀ x ∈ locs, 0 < x ∧ x < 2 ^ m := by
  unfold locsOf at e
  split at e
  · rename_i h1
    injection e with e
    subst e
    intro x hx
    rw [List.mem_singleton.1 hx]
    refine ⟨Nat.pos_of_ne_zero fun e0 => ?_, getD_lt h hA 0⟩
    have := tidy_zero hT (by omega) e0
    rw [this] at h1
    simp at h1
  · split at e
    · injection e with e
      subst e
      exact locTo_in h sg _ _
    · simp at e
theorem locsOf_len {sg locs : List Nat} (e : locsOf p m sg = some locs) : locs.length = sg.length - 1 := by
  unfold locsOf at e
  split at e
  · rename_i h1
    injection e with e
    subst e
    rw [h1]; rfl
  · split at e
    · rename_i h2
      injection e with e
      subst e
      exact h2
    · simp at e
/-- There are as many words as there were, all of them elements. -/
theorem dec_len {base R : Nat} {l l' : List Nat} (hD : DecRel p m base R l (some l')) : l'.length = l.length := by
  rcases hD with ⟨_, e⟩ | ⟨_, rl, r, tl, t, _, _, h1 | ⟨_, h1 | ⟨locs, _, h1 | ⟨_, h1 | ⟨_, e⟩⟩⟩⟩⟩
  · injection e with e; rw [e]
  · exact absurd h1.2 (by simp)
  · exact absurd h1.2 (by simp)
  · exact absurd h1.2 (by simp)
  · exact absurd h1.2 (by simp)
  · injection e with e; rw [e, fix_len]
theorem dec_in (h : IsGF p m) {base R : Nat} {l l' : List Nat} (hl : AllIn m l) (hG : ∀ rl r tl t, Eucs p m R (monoL 1 R) (tidy (synL p m base l R)) rl r tl t → AllIn m r) (hD : DecRel p m base R l (some l')) : AllIn m l' := by
  rcases hD with ⟨_, e⟩ | ⟨_, rl, r, tl, t, hE, _, h1 | ⟨_, h1 | ⟨locs, _, h1 | ⟨_, h1 | ⟨_, e⟩⟩⟩⟩⟩
  · injection e with e; rw [e]; exact hl
  · exact absurd h1.2 (by simp)
  · exact absurd h1.2 (by simp)
  · exact absurd h1.2 (by simp)
  · exact absurd h1.2 (by simp)
  · injection e with e
    rw [e]
    exact fix_in h hl (mags_in h base (tidy_in h (scale_in h (hG _ _ _ _ hE))) locs _) _
end
end Go.Proofs.Ytpkmknbmjlnkgaa
