/- The steps of the decoder's Euclidean algorithm, and how long its polynomials are. Plain Lean. -/
import Derived.Test.YtpkmknbmjlnkgaaRootL
import Derived.Test.YtpkmknbmjlnkgaaGenW
namespace Go.Proofs.Ytpkmknbmjlnkgaa
set_option linter.unusedVariables false

/-- One division: from q0, r0 one comes to q, r by taking multiples of d away. -/
inductive Divs (p m : Nat) (d q0 r0 : List Nat) : List Nat → List Nat → Prop
  | refl : Divs p m d q0 r0 q0 r0
  | step {q r : List Nat} : Divs p m d q0 r0 q r → r.getD 0 0 ≠ 0 → d.length ≤ r.length →
      Divs p m d q0 r0 (tidy (addL q (tidy (monoL (gm p m (r.getD 0 0) (inv p m (d.getD 0 0))) (r.length - d.length)))))
        (tidy (addL r (shiftl (scaleBy p m (gm p m (r.getD 0 0) (inv p m (d.getD 0 0))) d) (r.length - d.length))))
/-- The states of the algorithm: the last rest, the rest, the last factor, the factor. -/
inductive Eucs (p m R : Nat) (a b : List Nat) : List Nat → List Nat → List Nat → List Nat → Prop
  | start : Eucs p m R a b a b [0] [1]
  | step {rl r tl t q r' : List Nat} : Eucs p m R a b rl r tl t → R ≤ 2 * (r.length - 1) → r.getD 0 0 ≠ 0 → Divs p m r [0] rl q r' → (r'.length < r.length ∨ r' = [0]) →
      Eucs p m R a b r r' t (tidy (addL (tidy (prodL p m q t)) tl))

section
variable {p m : Nat}
theorem divs_good (h : IsGF p m) {d r0 : List Nat} (hd : Good m r0.length d) (hd0 : d.getD 0 0 ≠ 0) (hr0 : Good m r0.length r0) {q r : List Nat} (hD : Divs p m d [0] r0 q r) :
    Good m r0.length r ∧ Good m (r0.length - d.length + 1) q := by
  induction hD with
  | refl => exact ⟨hr0, (good_zero h).mono (by omega)⟩
  | step hD h1 h2 ih =>
    rename_i q r
    obtain ⟨ihr, ihq⟩ := ih
    obtain ⟨hT, hA, hr1, hrn⟩ := ihr
    obtain ⟨t1, t2, t3⟩ := div_term h hd.2.2.1 h1 hd0 h2 hA hd.2.1
    have hs : gm p m (r.getD 0 0) (inv p m (d.getD 0 0)) < 2 ^ m := gm_lt h (getD_lt h hA 0) _
    generalize gm p m (r.getD 0 0) (inv p m (d.getD 0 0)) = s at *
    have hTI : AllIn m (shiftl (scaleBy p m s d) (r.length - d.length)) := shiftl_in (scale_in h hd.2.1) _
    have hM : Good m (r0.length - d.length + 1) (tidy (monoL s (r.length - d.length))) := good_tidy h (mono_in h hs _) (by simp [monoL]) (by simp [monoL]; omega)
    exact ⟨good_add h ⟨hT, hA, hr1, hrn⟩ ⟨t1, hTI, by omega, by omega⟩, good_add h ihq hM⟩

/-- How long the polynomials of a state are. -/
structure EucB (m R : Nat) (rl r tl t : List Nat) : Prop where
  grl : Good m (R + 1) rl
  rl0 : rl.getD 0 0 ≠ 0
  gr : Good m (R + 1) r
  rlt : r.length < rl.length
  gtl : Good m (R + 2) tl
  gt : Good m (R + 2) t
  tb : t.length + rl.length ≤ R + 2
  tlb : tl.length + rl.length ≤ R + 2

theorem eucs_bound (h : IsGF p m) {R : Nat} (hR : 2 ≤ R) {a b : List Nat} (ha : Good m (R + 1) a) (ha0 : a.getD 0 0 ≠ 0) (hal : a.length = R + 1) (hb : Good m R b) {rl r tl t : List Nat} (hE : Eucs p m R a b rl r tl t) : EucB m R rl r tl t := by
  induction hE with
  | start =>
    have h1 : Good m 1 [1] := ⟨rfl, fun z hz => by rw [List.mem_singleton.1 hz]; exact one_lt h, by simp, by simp⟩
    exact ⟨ha, ha0, hb.mono (by omega), by have := hb.2.2.2; omega, (good_zero h).mono (by omega), h1.mono (by omega), by simp; omega, by simp; omega⟩
  | step hE h1 h2 hD h3 ih =>
    rename_i rl r tl t q r'
    obtain ⟨i1, i2, i3, i4, i5, i6, i7, i8⟩ := ih
    have hr1 := i3.2.2.1
    obtain ⟨g1, g2⟩ := divs_good h (d := r) (r0 := rl) ⟨i3.1, i3.2.1, i3.2.2.1, by omega⟩ h2 ⟨i1.1, i1.2.1, i1.2.2.1, Nat.le_refl _⟩ hD
    have hlt : r'.length < r.length := by
      rcases h3 with h4 | h4
      · exact h4
      · rw [h4]; simp; omega
    have hq1 := g2.2.2.1
    have hqn := g2.2.2.2
    have ht1 := i6.2.2.1
    have hPI := prodL_in h g2.2.1 i6.2.1
    have hPL : (prodL p m q t).length = q.length + t.length - 1 := prodL_len q t
    have hP : Good m (R + 2 - r.length) (tidy (prodL p m q t)) := good_tidy h hPI (by omega) (by omega)
    have hTL : Good m (R + 2 - r.length) tl := ⟨i5.1, i5.2.1, i5.2.2.1, by omega⟩
    have hN := good_add h hP hTL
    have hNn := hN.2.2.2
    exact ⟨i3, h2, ⟨g1.1, g1.2.1, g1.2.2.1, by have := i3.2.2.2; omega⟩, hlt, i6, hN.mono (by omega), by omega, by omega⟩
end
end Go.Proofs.Ytpkmknbmjlnkgaa
