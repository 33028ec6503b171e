/- QR codes: FnRQJoins: words for the law. -/
import Derived.Test.YtpffffhgmhpkiaaJnO
import Derived.Test.YtpffffhgmhpkiaaJnL
namespace Go.Proofs.Ytpffffhgmhpkiaa
open Go.RowKit
set_option linter.unusedVariables false
set_option linter.unusedSimpArgs false

/-- Another slice grows, and the contents of this one lie elsewhere. -/
theorem OwnL.other {α : Type} {F : World → List Value → α → Prop} {sz : Nat} {w w' : World} {B : Nat} {e : TypeId} {lv raw raw' : Value} {L : List α} (h : OwnL F sz (offS Al raw) w B e lv L) (hg : w.grownBy w' raw.ownBlock) (hr : raw'.ownBlock = raw.ownBlock ∨ raw'.ownBlock = some w.heap.size) (hne : lv.ownBlock = none ∨ lv.ownBlock ≠ raw.ownBlock) :
    OwnL F sz (offS Al raw') w' B e lv L := by
  obtain ⟨ys, h0, hy, h1, hF⟩ := h
  refine ⟨ys, h0, hy, World.ownsRow.kept h1 hg hne, ?_⟩
  have h2 : On (offS (offS Al lv) raw) w _ := hF.mono (fun g _ hh => ⟨⟨trivial, hh.2⟩, hh.1.2⟩)
  exact (h2.app hg hr).mono (fun g _ hh => ⟨⟨trivial, hh.2⟩, hh.1.2⟩)
theorem fpOn {S : Nat → Prop} {w : World} {q : QP} {R G : Option Addr} {rn c gn d : Nat} (hr : rn = q.r.length) (hc : rn ≤ c) (h1 : On S w (fun W => Rd W R rn (u8s q.r))) (hg : gn = q.g.length) (h2 : On S w (fun W => RdL FB 1 W G gn q.g)) :
    On S w (fun W => FP W [.string (strOf q.t), .slice R rn c, .slice G gn d, .int .i64 q.s] q) :=
  (h1.and h2).imp (fun W h => by subst hr; subst hg; exact ⟨R, c, G, d, rfl, hc, h.1, h.2⟩)
theorem segOn1 {S : Nat → Prop} {w : World} {gl n c : Nat} {R : Option Addr} {f : List Nat} (hl : Arr w gl 22 [.slice R n c]) (hR : On S w (fun W => Rd W R n (u8s f))) (hn : n = f.length) (hc : n ≤ c) (s1 : S gl) : On S w (fun W => RdL FB 1 W (some ⟨gl, 0, none⟩) 1 [f]) := by
  intro W a k
  subst hn
  have hl' : Arr W gl 22 [.slice R f.length c] := (k gl hl.lt s1).trans hl
  refine ⟨rfl, fun _ => ⟨gl, 0, rfl, hl'.lt, fun j x hx => ?_⟩⟩
  match j, hx with
  | 0, hx =>
    simp only [List.getElem?_cons_zero, Option.some.injEq] at hx
    subst hx
    refine ⟨[.slice R f.length c], rfl, fun i u hu => ?_, R, c, rfl, hc, hR W a k⟩
    match i, hu with
    | 0, hu =>
      simp only [List.getElem?_cons_zero, Option.some.injEq] at hu
      rw [← hu]
      exact hl'.cell? 0
/-- A slice of bytes in a list, and that it stays. -/
theorem fbOn {w : World} {A : Option Addr} {n : Nat} {L : List (List Nat)} (h : On Al w (fun W => RdL FB 1 W A n L)) (k : Nat) (hk : k < n) :
    ∃ b o R c, A = some ⟨b, o, none⟩ ∧ b < w.heap.size ∧ w.cell? ⟨b, o + k, none⟩ = some (.slice R (L.getD k []).length c) ∧ (L.getD k []).length ≤ c ∧ On Al w (fun W => Rd W R (L.getD k []).length (u8s (L.getD k []))) := by
  obtain ⟨b, o, R, c, hA, hb, hc, hle, hR⟩ := h.here.bytes k hk
  refine ⟨b, o, R, c, hA, hb, hc, hle, fun W a k' => ?_⟩
  obtain ⟨b', o', R', c', hA', hb', hc', hle', hR'⟩ := (h W a k').bytes k hk
  rw [hA] at hA'
  injection hA' with e1
  injection e1 with e1 e2
  subst e1; subst e2
  rw [World.cell?_of_block (a := ⟨b, o + k, none⟩) (k' b hb trivial), hc] at hc'
  injection hc' with e3
  injection e3 with e3 _ _
  subst e3
  exact hR'
theorem rdl_on {w : World} {A : Option Addr} {n : Nat} {L : List (List Nat)} (h : RdL FB 1 w A n L) : On Al w (fun W => RdL FB 1 W A n L) := fun W a k => ⟨h.1, fun hn => by
  obtain ⟨b, o, e, hb, hc⟩ := h.2 hn
  refine ⟨b, o, e, Nat.lt_of_lt_of_le hb a, fun j x hx => ?_⟩
  obtain ⟨y, h1, h2, R, c, rfl, h3, h4⟩ := hc j x hx
  exact ⟨_, h1, fun i u hu => (World.cell?_of_block (a := ⟨b, o + j * 1 + i, none⟩) (k b hb trivial)).trans (h2 i u hu), R, c, rfl, h3, (On.rd (S := Al) h4 (fun _ _ _ => trivial)) W a k⟩⟩
theorem Own.lit1 (w : World) (e : TypeId) (v : Value) : Own (w.alloc (.cells #[v] e)) w.heap.size e (.slice (some ⟨w.heap.size, 0, none⟩) 1 1) [v] :=
  Own.ofArr (Arr.of_new w e #[v]) (Nat.le_refl _) (by simp [maxLen])
/-- The parts of a text, each with raw bytes of its own. -/
def partL (s P : List Nat) (n k : Nat) : QP := ⟨cutAt s P k, k :: cutAt s P k, [cutAt s P k], ((16 * k + (n - 1) : Nat) : Int)⟩
def partsL (s P : List Nat) (n i : Nat) : List QP := (List.range i).map (partL s P n)
def rawL (s P : List Nat) (i : Nat) : List Nat := ((List.range i).map fun k => k :: cutAt s P k).flatten
def othL (L : List (List Nat)) (i : Nat) : List QP := ((L.take 4).take i).map fun o => ⟨o, o, [o], -1⟩
theorem partsL_succ (s P : List Nat) (n i : Nat) : partsL s P n (i + 1) = partsL s P n i ++ [partL s P n i] := by simp [partsL, List.range_succ]
theorem rawL_succ (s P : List Nat) (i : Nat) : rawL s P (i + 1) = rawL s P i ++ (i :: cutAt s P i) := by simp [rawL, List.range_succ]
theorem othL_succ (L : List (List Nat)) (i : Nat) (h : i < L.length) (h4 : i < 4) : othL L (i + 1) = othL L i ++ [⟨L.getD i [], L.getD i [], [L.getD i []], -1⟩] := by
  unfold othL
  rw [take_succD (L.take 4) i [] (by rw [List.length_take]; omega), List.map_append]
  congr 1
  simp [List.getD, List.getElem?_take, h4]
theorem othL_more (L : List (List Nat)) (i : Nat) (h : 4 ≤ i) : othL L (i + 1) = othL L i := by
  unfold othL
  rw [List.take_of_length_le (l := L.take 4) (i := i + 1) (by rw [List.length_take]; omega), List.take_of_length_le (l := L.take 4) (i := i) (by rw [List.length_take]; omega)]
theorem cut_le (s P : List Nat) (k : Nat) : (cutAt s P k).length ≤ s.length := by unfold cutAt; rw [List.length_drop, List.length_take]; omega
theorem cut_mem (s P : List Nat) (k x : Nat) (h : x ∈ cutAt s P k) : x ∈ s := List.mem_of_mem_take (List.mem_of_mem_drop h)
theorem rawL_len (s P : List Nat) (i : Nat) : (rawL s P i).length ≤ i * (s.length + 1) := by
  induction i with
  | zero => simp [rawL]
  | succ i ih =>
    rw [rawL_succ, List.length_append, List.length_cons, Nat.succ_mul]
    have := cut_le s P i
    omega
/-- The law's answer, plain. -/
theorem law_parts (s P : List Nat) (n : Nat) (L : List (List Nat)) (M : List QP) (out : List RV) (hP : n = 0 ∨ Plc P n s.length ∧ ∀ i, i < n → P.getD i 0 ≤ P.getD (i + 1) 0) (hM : M.Perm (partsL s P n n ++ othL L L.length)) (hJ : Joined (M.map cv) out) :
    out.length = (wantL M n s (rawL s P n)).length ∧ ∀ (i : Nat) (x : RV) (q : QP), out[i]? = some x → (wantL M n s (rawL s P n))[i]? = some q → Same (bk x) q := by
  have hO : ∀ q ∈ othL L L.length, q.s = -1 := by
    intro q hq
    obtain ⟨o, _, rfl⟩ := List.mem_map.1 hq
    rfl
  have hlen : (partsL s P n n).length = n := by simp [partsL]
  rcases Nat.eq_zero_or_pos n with h0 | h0
  · subst h0
    have := law_joined [] (othL L L.length) M [] [] out (by simpa [partsL] using hM) (fun q h => by cases h) List.Pairwise.nil hO rfl rfl rfl hJ
    simpa [wantL] using this
  · rcases hP with hP | ⟨hP, hs⟩
    · omega
    · have hcut := cut_flat s P n hP.first hs
      rw [hP.last, List.take_of_length_le (Nat.le_refl _)] at hcut
      have := law_joined (partsL s P n n) (othL L L.length) M s (rawL s P n) out hM ?_ ?_ hO ?_ ?_ ?_ hJ
      · rwa [hlen] at this
      · intro q hq
        obtain ⟨k, _, rfl⟩ := List.mem_map.1 hq
        show (0 : Int) ≤ ((16 * k + (n - 1) : Nat) : Int)
        omega
      · unfold partsL
        rw [List.pairwise_map]
        refine List.pairwise_lt_range.imp ?_
        intro a b hab
        show ((16 * a + (n - 1) : Nat) : Int) < ((16 * b + (n - 1) : Nat) : Int)
        omega
      · unfold partsL
        rw [List.flatMap_map, List.flatMap_def]
        exact hcut
      · unfold partsL rawL
        rw [List.flatMap_map, List.flatMap_def]
        rfl
      · unfold partsL
        rw [List.flatMap_map, List.flatMap_def]
        have : (fun k => (partL s P n k).g.flatten) = cutAt s P := by funext k; simp [partL]
        rw [this]
        exact hcut
end Go.Proofs.Ytpffffhgmhpkiaa
