/- QR codes: FnRQJoins: words for impl.QRJoined. -/
import Derived.Test.YtpffffhgmhpkiaaJnK
namespace Go.Proofs.Ytpffffhgmhpkiaa
open Go.RowKit Go.ChangeMaps Go.MapKept
set_option linter.unusedVariables false
set_option linter.unusedSimpArgs false

def qp0 : QP := ⟨[], [], [], 0⟩
/-- A part in a list, and that it stays. -/
theorem partOn {w : World} {A : Option Addr} {n : Nat} {M : List QP} (h : On Al w (fun W => RdL FP 4 W A n M)) (k : Nat) (hk : k < n) :
    ∃ b o R c G c', A = some ⟨b, o, none⟩ ∧ b < w.heap.size ∧ k < M.length ∧ w.cell? ⟨b, o + k * 4, none⟩ = some (.string (strOf (M.getD k qp0).t)) ∧ w.cell? ⟨b, o + k * 4 + 1, none⟩ = some (.slice R (M.getD k qp0).r.length c) ∧
      w.cell? ⟨b, o + k * 4 + 2, none⟩ = some (.slice G (M.getD k qp0).g.length c') ∧ w.cell? ⟨b, o + k * 4 + 3, none⟩ = some (.int .i64 (M.getD k qp0).s) ∧ (M.getD k qp0).r.length ≤ c ∧
      On Al w (fun W => Rd W R (M.getD k qp0).r.length (u8s (M.getD k qp0).r) ∧ RdL FB 1 W G (M.getD k qp0).g.length (M.getD k qp0).g) := by
  obtain ⟨b, o, x, y, hA, hb, hx, hl, hc, R, c, G, c', hy, h1, h2, h3⟩ := h.here.at_ k hk
  have hM : M.getD k qp0 = x := by rw [List.getD, hx]; rfl
  rw [hM]
  subst hy
  have c0 := hc 0 _ rfl
  have c1 := hc 1 _ rfl
  have c2 := hc 2 _ rfl
  have c3 := hc 3 _ rfl
  rw [Nat.add_zero] at c0
  refine ⟨b, o, R, c, G, c', hA, hb, (List.getElem?_eq_some_iff.1 hx).1, c0, c1, c2, c3, h1, fun W a k' => ?_⟩
  obtain ⟨b', o', x', y', hA', hb', hx', hl', hc', R', d, G', d', hy', h1', h2', h3'⟩ := (h W a k').at_ k hk
  rw [hA] at hA'
  injection hA' with e1
  injection e1 with e1 e2
  subst e1; subst e2
  rw [hx] at hx'
  injection hx' with e3
  subst e3
  subst hy'
  have d1 := hc' 1 _ rfl
  have d2 := hc' 2 _ rfl
  rw [World.cell?_of_block (a := ⟨b, o + k * 4 + 1, none⟩) (k' b hb trivial), c1] at d1
  rw [World.cell?_of_block (a := ⟨b, o + k * 4 + 2, none⟩) (k' b hb trivial), c2] at d2
  injection d1 with d1
  injection d1 with d1 _ _
  injection d2 with d2
  injection d2 with d2 _ _
  subst d1; subst d2
  exact ⟨h2', h3'⟩
theorem On.offFro {B Z : Nat} {w : World} {Φ : World → Prop} {v : Value} (h : On (Fro Z) w Φ) (hB : B ≤ Z) (hv : ∀ k, v.ownBlock = some k → k < Z) : On (offS (Fro B) v) w Φ :=
  h.mono (fun g _ h2 => ⟨Nat.le_trans hB h2, fun e => by have := hv g e; unfold Fro at h2; omega⟩)
/-- What comes out of the joining. -/
theorem joined_facts {L out : List RV} {T : Nat} (h : Joined L out) (hr : (L.flatMap (·.r)).length ≤ T) (hg : (L.flatMap segF).length ≤ T) (hgl : ∀ q ∈ L, ∀ Lg, q.g = some Lg → Lg.length ≤ T ∧ ∀ y ∈ Lg, y.length ≤ T) (hT : 1 ≤ T) :
    out.length ≤ L.length ∧ ∀ x ∈ out, x.s = none ∧ x.r.length ≤ T ∧ ∀ Lg, x.g = some Lg → Lg.length ≤ T ∧ ∀ y ∈ Lg, y.length ≤ T := by
  have hmem : ∀ (f : RV → List Nat) (x : RV), x ∈ L → (f x).length ≤ (L.flatMap f).length := by
    intro f x hx
    obtain ⟨i, hi, rfl⟩ := List.getElem_of_mem hx
    have h1 := flat_len_take f L (i + 1)
    rw [flatMap_take f L i rv0 hi, List.length_append, List.getD, List.getElem?_eq_getElem hi] at h1
    simp only [Option.getD_some] at h1
    omega
  have hno : ∀ x, isSA x = false → x.s = none := by
    intro x hx
    unfold isSA at hx
    cases hs : x.s with
    | none => rfl
    | some v => rw [hs] at hx; cases hx
  rcases h with ⟨hn, rfl⟩ | ⟨S, hS, hSo, ⟨x0, hx0, hs0⟩, rfl⟩
  · exact ⟨Nat.le_refl _, fun x hx => ⟨hno x (hn x hx), Nat.le_trans (hmem (·.r) x hx) hr, hgl x hx⟩⟩
  · refine ⟨?_, fun x hx => ?_⟩
    · rw [List.length_append, List.length_singleton]
      have : ∀ l : List RV, (∃ x ∈ l, isSA x = true) → (l.filter fun x => !isSA x).length + 1 ≤ l.length := by
        intro l
        induction l with
        | nil => rintro ⟨x, hx, _⟩; cases hx
        | cons a l ih =>
          rintro ⟨x, hx, hs⟩
          rw [List.filter_cons]
          have hle := List.length_filter_le (fun x => !isSA x) l
          cases ha : isSA a with
          | true => simp only [Bool.not_true, Bool.false_eq_true, if_false, List.length_cons]; omega
          | false =>
            rcases List.mem_cons.1 hx with e | e
            · rw [e, ha] at hs; cases hs
            · have := ih ⟨x, e, hs⟩
              simp only [Bool.not_false, if_true, List.length_cons]; omega
      exact this L ⟨x0, hx0, hs0⟩
    · rcases List.mem_append.1 hx with hx | hx
      · obtain ⟨h1, h2⟩ := List.mem_filter.1 hx
        exact ⟨hno x (by simpa using h2), Nat.le_trans (hmem (·.r) x h1) hr, hgl x h1⟩
      · rw [List.mem_singleton.1 hx]
        have hp1 : (S.flatMap (·.r)).length ≤ T := by rw [flat_len_perm _ hS]; exact Nat.le_trans (flat_len_filter _ _ _) hr
        have hp2 : (S.flatMap segF).length ≤ T := by rw [flat_len_perm _ hS]; exact Nat.le_trans (flat_len_filter _ _ _) hg
        refine ⟨rfl, hp1, fun Lg hL => ?_⟩
        have hj : (joinR S).g = if (S.flatMap segF).length = 0 then none else some [S.flatMap segF] := rfl
        rw [hj] at hL
        split at hL
        · cases hL
        · injection hL with hL
          subst hL
          exact ⟨by simpa using hT, fun y hy => by rw [List.mem_singleton.1 hy]; exact hp2⟩
def JoinOut (M : List QP) (w : World) (e : Ending) (w' : World) : Prop :=
  ∃ A n c out, e = .returned (.slice A n c) ∧ n = out.length ∧ n ≤ 64 ∧ Joined (M.map cv) out ∧ (∀ x ∈ out, x.s = none) ∧ On Al w' (fun W => RdL FP 4 W A n (out.map bk)) ∧ Below w.heap.size w w'
theorem flatMap_cv (M : List QP) : (M.map cv).flatMap (·.t) = M.flatMap (·.t) ∧ (M.map cv).flatMap (·.r) = M.flatMap (·.r) ∧ (M.map cv).flatMap segF = M.flatMap (fun q => q.g.flatten) := by
  refine ⟨?_, ?_, ?_⟩
  · rw [List.flatMap_map]; rfl
  · rw [List.flatMap_map]; rfl
  · rw [List.flatMap_map]; simp only [segF_cv]
theorem info29 : (Try.prog.info? 29).map (fun i => (i.zero, i.size, i.bytes)) = some (some (.agg #[.string ⟨#[]⟩, .slice none 0 0, .slice none 0 0, .int .i64 0]), 4, 72) := by kernel_rfl
theorem info_of29 {t : TypeId} {z : Value} {b : Nat} (h : (Try.prog.info? t).map (fun i => (i.zero, i.size, i.bytes)) = some (some z, 4, b)) : ∃ i, Try.prog.info? t = some i ∧ i.zero = some z ∧ i.size = 4 ∧ i.bytes = b := by
  cases hi : Try.prog.info? t with
  | none => rw [hi] at h; cases h
  | some i =>
    rw [hi] at h
    simp only [Option.map_some, Option.some.injEq, Prod.mk.injEq] at h
    exact ⟨i, rfl, h.1, h.2.1, h.2.2⟩
theorem psaQ (L : List RV) (A : Option Addr) (N c : Nat) (w : World) (hR : On Al w (fun W => RdL FR 1 W A N L)) (hN : N ≤ 64) (hc : N ≤ c) (ht : (L.flatMap (·.t)).length ≤ 17179869184) (hr : (L.flatMap (·.r)).length ≤ 17179869184) (hg : (L.flatMap segF).length ≤ 17179869184)
    (h8 : ∀ q ∈ L, ∀ x ∈ q.t, x < 256) (hr1 : ∀ q ∈ L, isSA q = true → 1 ≤ q.r.length) (hgl : ∀ q ∈ L, ∀ Lg, q.g = some Lg → Lg.length ≤ 17179869184) : Calls Try.prog 29 #[.slice A N c] w (ProcOut L w) := by
  have pq := processQ L A N c w hR hN hc ht hr hg h8 hr1 hgl
  clear hR ht hr hg h8 hr1 hgl
  go_enter Try.func29, Try.ntmps29
  go_wp2_with fail
  refine pq.mono ?_
  rintro e w1 ⟨A', n', c', out, rfl, h1⟩
  have H1 := hid h1
  clear h1
  go_wp2_with fail
  go_ret
  exact ⟨A', n', c', out, rfl, H1.out⟩
end Go.Proofs.Ytpffffhgmhpkiaa
