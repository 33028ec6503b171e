/- QR codes: FnRQJoins: memory that stays as it is, whatever else is laid. -/
import Derived.Test.YtpffffhgmhpkiaaSpM
import Derived.Test.YtpffffhgmhpkiaaSpE
namespace Go.Proofs.Ytpffffhgmhpkiaa
open Go.RowKit
set_option linter.unusedVariables false
set_option linter.unusedSimpArgs false

/-- Φ holds in w, and in every world in which the blocks of S stand as they do in w. -/
def On (S : Nat → Prop) (w : World) (Φ : World → Prop) : Prop :=
  ∀ w', w.heap.size ≤ w'.heap.size → (∀ g, g < w.heap.size → S g → w'.heap[g]? = w.heap[g]?) → Φ w'
/-- All blocks. -/
def Al : Nat → Prop := fun _ => True
/-- The blocks from number B on. -/
def Fro (B : Nat) : Nat → Prop := fun g => B ≤ g
/-- Blocks of S, but for a slice's own. -/
def offS (S : Nat → Prop) (v : Value) : Nat → Prop := fun g => S g ∧ v.ownBlock ≠ some g
section
variable {S T : Nat → Prop} {w w' : World} {Φ Ψ : World → Prop}
theorem On.here (h : On S w Φ) : Φ w := h w (Nat.le_refl _) (fun _ _ _ => rfl)
theorem On.imp (h : On S w Φ) (hi : ∀ W, Φ W → Ψ W) : On S w Ψ := fun w' a b => hi _ (h w' a b)
theorem On.and (h : On S w Φ) (k : On S w Ψ) : On S w (fun W => Φ W ∧ Ψ W) := fun w' a b => ⟨h w' a b, k w' a b⟩
theorem On.all {ι : Sort _} {F : ι → World → Prop} (h : ∀ i, On S w (F i)) : On S w (fun W => ∀ i, F i W) := fun w' a b i => h i w' a b
theorem On.mono (h : On S w Φ) (hs : ∀ g, g < w.heap.size → S g → T g) : On T w Φ := fun w' a b => h w' a (fun g h1 h2 => b g h1 (hs g h1 h2))
theorem On.step (h : On S w Φ) (hz : w.heap.size ≤ w'.heap.size) (hk : ∀ g, g < w.heap.size → S g → w'.heap[g]? = w.heap[g]?) : On S w' Φ := fun w2 a b =>
  h w2 (Nat.le_trans hz a) (fun g h1 h2 => (b g (Nat.lt_of_lt_of_le h1 hz) h2).trans (hk g h1 h2))
theorem On.below (h : On S w Φ) (hb : Below w.heap.size w w') : On S w' Φ := h.step hb.size (fun g h1 _ => hb.block g h1)
theorem On.alloc (h : On S w Φ) (o : Obj) : On S (w.alloc o) Φ := h.below ((Below.refl _ _).alloc (Nat.le_refl _) _)
theorem On.drew (h : On S w Φ) : On S w.drew Φ := h.step (Nat.le_refl _) (fun _ _ _ => rfl)
theorem On.drewN (h : On S w Φ) (k : Nat) : On S (w.drewN k) Φ := h.step (Nat.le_refl _) (fun _ _ _ => rfl)
theorem On.sub {B : Nat} {v : Value} (h : On (Fro B) w Φ) (hv : ∀ k, v.ownBlock = some k → k < B) : On (offS Al v) w Φ := h.mono (fun g _ h2 => ⟨trivial, fun e => by have := hv g e; unfold Fro at h2; omega⟩)
theorem On.fr {B C : Nat} (h : On (Fro B) w Φ) (hC : C ≤ B) : On (Fro C) w Φ := h.mono (fun g _ h2 => Nat.le_trans hC h2)
theorem On.al (h : On S w Φ) : On Al w Φ := h.mono (fun _ _ _ => trivial)
theorem On.bel (h : On Al w Φ) {B : Nat} (hb : Below B w w') (hB : w.heap.size ≤ B) : On Al w' Φ := h.step hb.size (fun g h1 _ => hb.block g (by omega))
theorem On.rd {A : Option Addr} {n : Nat} {l : List Value} (h : Rd w A n l) (hs : 0 < n → ∀ a, A = some a → S a.block) : On S w (fun W => Rd W A n l) := fun w' a b =>
  ⟨h.1, fun hn => by
    obtain ⟨g, o, e, hg, hc⟩ := h.2 hn
    exact ⟨g, o, e, Nat.lt_of_lt_of_le hg a, fun k hk => (World.cell?_of_block (a := ⟨g, o + k, none⟩) (b g hg (hs hn _ e))).trans (hc k hk)⟩⟩
theorem On.blk {g : Nat} {x : Option Obj} (h : w.heap[g]? = x) (hg : g < w.heap.size) (hs : S g) : On S w (fun W => W.heap[g]? = x) := fun w' a b => (b g hg hs).trans h
theorem On.lt {g : Nat} (hg : g < w.heap.size) : On S w (fun W => g < W.heap.size) := fun w' a _ => Nat.lt_of_lt_of_le hg a
theorem On.const {p : Prop} (h : p) : On S w (fun _ => p) := fun _ _ _ => h
/-- Behind an append onto a slice. -/
theorem On.app {v v' : Value} (h : On (offS S v) w Φ) (hg : w.grownBy w' v.ownBlock) (hv : v'.ownBlock = v.ownBlock ∨ v'.ownBlock = some w.heap.size) : On (offS S v') w' Φ := fun w2 a b =>
  h w2 (Nat.le_trans hg.size a) (fun g h1 h2 => by
    have h3 : v'.ownBlock ≠ some g := by
      obtain ⟨_, h2⟩ := h2
      rcases hv with e | e
      · rw [e]; exact h2
      · rw [e]; intro h3; injection h3 with h3; omega
    exact (b g (Nat.lt_of_lt_of_le h1 hg.size) ⟨h2.1, h3⟩).trans (hg.block g h1 (fun e => h2.2 e.symm)))
end

/-- A list of elements of sz cells each, as it can be read. -/
def RdL {α : Type} (F : World → List Value → α → Prop) (sz : Nat) (W : World) (A : Option Addr) (n : Nat) (L : List α) : Prop :=
  L.length = n ∧ (0 < n → ∃ b o, A = some ⟨b, o, none⟩ ∧ b < W.heap.size ∧ ∀ k x, L[k]? = some x → ∃ y : List Value, y.length = sz ∧ (∀ j u, y[j]? = some u → W.cell? ⟨b, o + k * sz + j, none⟩ = some u) ∧ F W y x)
/-- The same, in a slice of the call's own. -/
def OwnL {α : Type} (F : World → List Value → α → Prop) (sz : Nat) (S : Nat → Prop) (w : World) (B : Nat) (e : TypeId) (v : Value) (L : List α) : Prop :=
  ∃ ys : List (List Value), ys.length = L.length ∧ (∀ y ∈ ys, y.length = sz) ∧ w.ownsRow B e sz v L.length ys.flatten ∧ On (offS S v) w (fun W => ∀ (k : Nat) (x : α) (y : List Value), L[k]? = some x → ys[k]? = some y → F W y x)

theorem flat_at : ∀ (ys : List (List Value)) (sz k j : Nat) (y : List Value), (∀ y ∈ ys, y.length = sz) → ys[k]? = some y → j < sz → ys.flatten[k * sz + j]? = y[j]?
  | [], sz, k, j, y, h, e, hj => by simp at e
  | z :: ys, sz, 0, j, y, h, e, hj => by
    simp only [List.getElem?_cons_zero, Option.some.injEq] at e
    subst e
    rw [List.flatten_cons, Nat.zero_mul, Nat.zero_add, List.getElem?_append_left (by rw [h z (by simp)]; exact hj)]
  | z :: ys, sz, k + 1, j, y, h, e, hj => by
    have hz := h z (by simp)
    rw [List.flatten_cons, List.getElem?_append_right (by rw [hz, Nat.succ_mul]; omega), hz, show (k + 1) * sz + j - sz = k * sz + j by rw [Nat.succ_mul]; omega]
    exact flat_at ys sz k j y (fun y hy => h y (by simp [hy])) (by simpa using e) hj
section
variable {α : Type} {F : World → List Value → α → Prop} {sz : Nat} {S : Nat → Prop} {w w' : World} {B : Nat} {e : TypeId} {v v' : Value} {L : List α}
theorem RdL.len {A : Option Addr} {n : Nat} (h : RdL F sz w A n L) : L.length = n := h.1
theorem OwnL.form (h : OwnL F sz S w B e v L) : ∃ A c, v = .slice A L.length c ∧ L.length ≤ c := by
  obtain ⟨ys, _, _, h1, _⟩ := h
  rcases h1.2 with ⟨e, e2⟩ | ⟨g, cap, cur, e, _, _, hc, _⟩
  · exact ⟨none, 0, by rw [e, e2], by omega⟩
  · exact ⟨_, _, e, hc⟩
theorem OwnL.nil (w : World) (B : Nat) (e : TypeId) : OwnL F sz S w B e (.slice none 0 0) [] :=
  ⟨[], rfl, fun y hy => (by simp at hy), World.ownsRow_nil _ _ _ _, fun w' _ _ k x y hx => by simp at hx⟩
theorem OwnL.lt (h : OwnL F sz S w B e v L) (k : Nat) (hk : v.ownBlock = some k) : B ≤ k ∧ k < w.heap.size := by
  obtain ⟨ys, _, _, h1, _⟩ := h
  exact World.ownsRow.lt h1 k hk
theorem OwnL.rdl {T : Nat → Prop} {A : Option Addr} {n c : Nat} (h : OwnL F sz S w B e (.slice A n c) L) (hn : n = L.length) (hT : ∀ g, S g → T g) (hB : ∀ g, B ≤ g → T g) : On T w (fun W => RdL F sz W A n L) := by
  subst hn
  obtain ⟨ys, h0, hy, h1, hF⟩ := h
  intro w' a b
  refine ⟨rfl, fun hn => ?_⟩
  rcases h1.2 with ⟨e, e2⟩ | ⟨g, cap, cur, e, hg, hh, r⟩
  · omega
  · injection e with e1 e2 e3
    subst e1
    have hl : g < w.heap.size := by
      rcases Nat.lt_or_ge g w.heap.size with hl | hl
      · exact hl
      · rw [Array.getElem?_eq_none hl] at hh; cases hh
    refine ⟨g, 0, rfl, Nat.lt_of_lt_of_le hl a, fun k x hx => ?_⟩
    have hkl : k < L.length := (List.getElem?_eq_some_iff.1 hx).1
    have hky : ys[k]? = some (ys[k]'(by omega)) := List.getElem?_eq_getElem (by omega)
    refine ⟨ys[k]'(by omega), hy _ (List.getElem_mem _), fun j u hu => ?_, hF w' a (fun g h1 h2 => b g h1 (hT g h2.1)) k x _ hx hky⟩
    have hj : j < sz := by rw [← hy _ (List.getElem_mem (h := (by omega : k < ys.length)))]; exact (List.getElem?_eq_some_iff.1 hu).1
    have hks : k * sz + j < L.length * sz := by
      have : (k + 1) * sz ≤ L.length * sz := Nat.mul_le_mul_right _ hkl
      rw [Nat.succ_mul] at this; omega
    rw [Nat.zero_add, World.cell?_of_block (a := ⟨g, k * sz + j, none⟩) (b g hl (hB g hg)), h1.cellAt _ hks, flat_at ys sz k j _ hy hky hj, hu]
theorem OwnL.below {C : Nat} (h : OwnL F sz S w B e v L) (hb : Below C w w') (hC : w.heap.size ≤ C) : OwnL F sz S w' B e v L := by
  obtain ⟨ys, h0, hy, h1, hF⟩ := h
  refine ⟨ys, h0, hy, ?_, hF.step hb.size (fun g h _ => hb.block g (by omega))⟩
  refine ⟨h1.1, ?_⟩
  rcases h1.2 with h2 | ⟨g, cap, cur, hv, hg, hh, r⟩
  · exact .inl h2
  · refine .inr ⟨g, cap, cur, hv, hg, ?_, r⟩
    have := (World.ownsRow.lt h1 g (by rw [hv]; rfl)).2
    rw [hb.block g (by omega)]; exact hh
theorem OwnL.alloc (h : OwnL F sz S w B e v L) (o : Obj) : OwnL F sz S (w.alloc o) B e v L := h.below ((Below.refl _ _).alloc (Nat.le_refl _) _) (Nat.le_refl _)
theorem OwnL.drew (h : OwnL F sz S w B e v L) : OwnL F sz S w.drew B e v L := h.below (⟨rfl, rfl, rfl, Nat.le_refl _, fun _ _ => rfl⟩ : Below w.heap.size w w.drew) (Nat.le_refl _)
/-- One element more. -/
theorem OwnL.app {ys : List (List Value)} {x : α} {y : List Value} (h0 : ys.length = L.length) (hy : ∀ y ∈ ys, y.length = sz) (hF : On (offS S v) w (fun W => ∀ (k : Nat) (x : α) (y : List Value), L[k]? = some x → ys[k]? = some y → F W y x))
    (hx : On (offS S v) w (fun W => F W y x)) (hyl : y.length = sz) (hO : w'.ownsRow B e sz v' (L.length + 1) (ys.flatten ++ y)) (hg : w.grownBy w' v.ownBlock) (hv : v'.ownBlock = v.ownBlock ∨ v'.ownBlock = some w.heap.size) :
    OwnL F sz S w' B e v' (L ++ [x]) := by
  refine ⟨ys ++ [y], by simp [h0], fun z hz => ?_, by rw [List.length_append, List.length_singleton, List.flatten_append]; simpa using hO, ?_⟩
  · rcases List.mem_append.1 hz with hz | hz
    · exact hy z hz
    · rw [List.mem_singleton.1 hz]; exact hyl
  · have h1 := hF.app hg hv
    have h2 := hx.app hg hv
    intro w2 a b k x' y' hx' hy'
    by_cases hk : k < L.length
    · rw [List.getElem?_append_left hk] at hx'
      rw [List.getElem?_append_left (by omega)] at hy'
      exact h1 w2 a b k x' y' hx' hy'
    · have hkl : k = L.length := by
        have := (List.getElem?_eq_some_iff.1 hx').1
        simp at this; omega
      rw [List.getElem?_append_right (by omega), hkl, Nat.sub_self] at hx'
      rw [List.getElem?_append_right (by omega), hkl, h0, Nat.sub_self] at hy'
      simp only [List.getElem?_cons_zero, Option.some.injEq] at hx' hy'
      subst hx'; subst hy'
      exact h2 w2 a b
end
section
variable {P : Program} {ops : Array Oper} {o : Oper} {a : Act} {α : Type} {F : World → List Value → α → Prop} {S : Nat → Prop}
/-- append of one element of sz cells. -/
theorem wpList_appL (w : World) {rest : List Oper} {Q : Exit → Act → World → Prop} (hgd : o.guard = none) (s x : Operand) (t : TypeId)
    (ho : o.op = .call { callee := .builtin .append, args := #[s, x], argTypes := #[t, t] })
    (B : Nat) (E : TypeId) (i : TypeInfo) (z : Value) (sz bytes : Nat) (ht : P.underlying t = some (.slice E)) (hi : P.info? E = some i) (hz : i.zero = some z)
    (hsize : i.size = sz) (hby : i.bytes = bytes) (hzs : z.cells.size = sz) (hs0 : 0 < sz) (v : Value) (L : List α) (hs : a.eval s = v) (hown : OwnL F sz S w B E v L)
    (ad : Addr) (c : Nat) (y : List Value) (q : α) (hx : a.eval x = .slice (some ad) 1 c) (hl : y.length = sz) (hr : ∀ j u, y[j]? = some u → w.cell? (ad.add j) = some u) (h1 : ∀ u ∈ y, u.oneCell' = true)
    (hq : On (offS S v) w (fun W => F W y q)) (h63 : L.length + 1 ≤ maxLen) (hbytes : (L.length + 1) * bytes ≤ 140737488355328) (hB : B ≤ w.heap.size)
    (h : ∀ v' w', OwnL F sz S w' B E v' (L ++ [q]) → w.grownBy w' v.ownBlock → wpList P ops Q rest (a.put o.dst v') w') : wpList P ops Q (o :: rest) a w :=
  wpList_plain hgd fun _ hK => by
    obtain ⟨ys, h0, hy, hO, hF⟩ := hown
    obtain ⟨v', w', hrun, h2, h3, _, h5⟩ := run_append_own_at (P := P) w B t o.type E i z sz bytes ht hi hz hsize hby hzs hs0 v L.length ys.flatten hO ad 1 c y (by omega) hr h1 h63 hbytes hB
    unfold Oper.wp execOp
    simp only [ho, resolve, invoke, builtin, Sem.run_bind, Sem.run_pure, Result.andThen_ok, List.map_toArray, List.map_cons, List.map_nil, hs, hx, hrun]
    exact hK _ _ (h v' w' (OwnL.app h0 hy hF hq hl h2 h3 h5) h3)
end
theorem cell_new (w : World) (cs : Array Value) (t : TypeId) (g : Nat) (hg : g = w.heap.size) : ∀ j u, cs.toList[j]? = some u → (w.alloc (.cells cs t)).cell? ((⟨g, 0, none⟩ : Addr).add j) = some u := by
  subst hg
  intro j u hj
  have := (Arr.of_new w t cs).cell? j
  unfold Addr.add
  by_cases h0 : j = 0
  · subst h0; simpa [hj] using this.trans hj
  · simp only [h0, if_false]; rw [Nat.zero_add]; exact this.trans hj
/-- Nothing below B turns by an append. -/
theorem below_appL {α : Type} {F : World → List Value → α → Prop} {sz : Nat} {S : Nat → Prop} {w w' w0 : World} {B C : Nat} {e : TypeId} {v : Value} {L : List α} (hb : Below C w0 w) (h : OwnL F sz S w B e v L) (hg : w.grownBy w' v.ownBlock) (hC : C ≤ B) (hs : C ≤ w.heap.size) : Below C w0 w' :=
  hb.grown hg hs fun k hk => Nat.le_trans hC (h.lt k hk).1
/-- A slice of bytes. -/
def FB (W : World) (y : List Value) (s : List Nat) : Prop := ∃ R c, y = [.slice R s.length c] ∧ s.length ≤ c ∧ Rd W R s.length (u8s s)
/-- An integer. -/
def FI (W : World) (y : List Value) (x : Nat) : Prop := y = [.int .i64 (x : Nat)]
/-- A part of a text. -/
structure QP where
  t : List Nat
  r : List Nat
  g : List (List Nat)
  s : Int
def FP (W : World) (y : List Value) (q : QP) : Prop :=
  ∃ R c G c', y = [.string (strOf q.t), .slice R q.r.length c, .slice G q.g.length c', .int .i64 q.s] ∧ q.r.length ≤ c ∧ Rd W R q.r.length (u8s q.r) ∧ RdL FB 1 W G q.g.length q.g
/-- One element as it lies. -/
theorem RdL.at_ {α : Type} {F : World → List Value → α → Prop} {sz : Nat} {W : World} {A : Option Addr} {n : Nat} {L : List α} (h : RdL F sz W A n L) (k : Nat) (hk : k < n) : ∃ b o x y, A = some ⟨b, o, none⟩ ∧ b < W.heap.size ∧ L[k]? = some x ∧ y.length = sz ∧ (∀ j u, y[j]? = some u → W.cell? ⟨b, o + k * sz + j, none⟩ = some u) ∧ F W y x := by
  obtain ⟨b, o, e, hb, hc⟩ := h.2 (by omega)
  have hl : k < L.length := by rw [h.1]; exact hk
  obtain ⟨y, h1, h2, h3⟩ := hc k L[k] (List.getElem?_eq_getElem hl)
  exact ⟨b, o, L[k], y, e, hb, List.getElem?_eq_getElem hl, h1, h2, h3⟩
end Go.Proofs.Ytpffffhgmhpkiaa
