/- Words for memory that the walks of this seat share: a block that is known whole, and how it is kept. -/
import Derived.WalkKit
import Derived.WalkSpells
import Derived.WalkLawsBesides
import Derived.Laws.Rows
import Derived.Deep.Draws
import Derived.Maps.AppendAt
import Derived.Deep.AppendLies
import Derived.RegionTactic
import Derived.OwnWalk
namespace Go.Proofs.YtliephokeafllaaGreatDoor
open Go.RowKit

/-- A fact laid behind a name, so that the walk does not rewrite by it. -/
theorem hid {p : Prop} (h : p) : Hid p := h

theorem wf_u8 {n : Int} (h : (Lit.int .u8 n).wf = true) : 0 ≤ n ∧ n ≤ 255 := by
  simp [Lit.wf, IntKind.min, IntKind.max, IntKind.signed, IntKind.bits] at h; omega
theorem wf_i8 {n : Int} (h : (Lit.int .i8 n).wf = true) : -128 ≤ n ∧ n ≤ 127 := by
  simp [Lit.wf, IntKind.min, IntKind.max, IntKind.signed, IntKind.bits] at h; omega
theorem wf_u16 {n : Int} (h : (Lit.int .u16 n).wf = true) : 0 ≤ n ∧ n ≤ 65535 := by
  simp [Lit.wf, IntKind.min, IntKind.max, IntKind.signed, IntKind.bits] at h; omega
theorem wf_u32 {n : Int} (h : (Lit.int .u32 n).wf = true) : 0 ≤ n ∧ n ≤ 4294967295 := by
  simp [Lit.wf, IntKind.min, IntKind.max, IntKind.signed, IntKind.bits] at h; omega
theorem wf_i64 {n : Int} (h : (Lit.int .i64 n).wf = true) : -9223372036854775808 ≤ n ∧ n ≤ 9223372036854775807 := by
  simp [Lit.wf, IntKind.min, IntKind.max, IntKind.signed, IntKind.bits] at h; omega

/-- Block g is the cells l of element type t, none of them frozen. -/
def Arr (w : World) (g : Nat) (t : TypeId) (l : List Value) : Prop := w.heap[g]? = some (.cells l.toArray t (0, 0))

section
variable {w w' : World} {g : Nat} {t : TypeId} {l : List Value}
theorem Arr.lt (h : Arr w g t l) : g < w.heap.size := by
  unfold Arr at h
  rcases Nat.lt_or_ge g w.heap.size with hl | hl
  · exact hl
  · rw [Array.getElem?_eq_none hl] at h; cases h
theorem Arr.cell? (h : Arr w g t l) (k : Nat) : w.cell? ⟨g, k, none⟩ = l[k]? := by
  unfold Arr at h
  simp [World.cell?, h]
theorem Arr.cell (h : Arr w g t l) (k : Nat) (hk : k < l.length) : w.cell? ⟨g, k, none⟩ = some l[k] := by
  rw [h.cell? k, List.getElem?_eq_getElem hk]
theorem Arr.has (h : Arr w g t l) (k : Nat) (hk : k < l.length) : ∃ v, w.cell? ⟨g, k, none⟩ = some v := ⟨_, h.cell k hk⟩
theorem Arr.frozen (h : Arr w g t l) (k : Nat) : w.frozen? ⟨g, k, none⟩ = false := by
  unfold Arr at h
  simp [World.frozen?, h]
theorem Arr.set (h : Arr w g t l) (k : Nat) (v : Value) : Arr (w.setCell ⟨g, k, none⟩ v) g t (l.set k v) := by
  unfold Arr at h ⊢
  rw [heap_setCell_same w g k _ t v h]
  simp
theorem Arr.far (h : Arr w g t l) {p : Addr} (hp : g ≠ p.block) (v : Value) : Arr (w.setCell p v) g t l :=
  (Below.heap_setCell w p v g hp).trans h
theorem Arr.alloc (h : Arr w g t l) (o : Obj) : Arr (w.alloc o) g t l := (Below.heap_alloc w o g h.lt).trans h
theorem Arr.below {B : Nat} (h : Arr w g t l) (hb : Below B w w') (hg : g < B) : Arr w' g t l := (hb.block g hg).trans h
theorem Arr.grown {row : Option Nat} (h : Arr w g t l) (hb : w.grownBy w' row) (hg : some g ≠ row) : Arr w' g t l := (hb.block g h.lt hg).trans h
theorem Arr.drew (h : Arr w g t l) : Arr w.drew g t l := h
theorem Arr.drewN (h : Arr w g t l) (n : Nat) : Arr (w.drewN n) g t l := h
theorem Arr.of_new (w : World) (t : TypeId) (cs : Array Value) : Arr (w.alloc (.cells cs t)) w.heap.size t cs.toList := by
  unfold Arr
  rw [Array.toArray_toList]
  exact heap_alloc_new w _
theorem Arr.made (w : World) (t : TypeId) (v : Value) (n : Nat) : Arr (w.alloc (.cells (madeCells #[v] n) t)) w.heap.size t (List.replicate n v) := by
  have h := Arr.of_new w t (madeCells #[v] n)
  have e : (madeCells #[v] n).toList = List.replicate n v := by
    apply List.ext_getElem
    · simp [madeCells]
    · intro i h1 h2
      simp [madeCells, Nat.mod_one]
  rwa [e] at h
end

/-- A slice that came in, of n elements of one cell each: what its cells hold. -/
def SlIn (w : World) (A : Option Addr) (n cap : Nat) (l : List Value) : Prop :=
  l.length = n ∧ n ≤ cap ∧ cap ≤ maxLen ∧ (0 < n → ∃ b o, A = Option.some ⟨b, o, none⟩ ∧ b < w.heap.size ∧ ∀ k (h : k < l.length), w.cell? ⟨b, o + k, none⟩ = Option.some l[k])

/-- A slice of n elements of one cell each reads as the list l. -/
def Rd (w : World) (A : Option Addr) (n : Nat) (l : List Value) : Prop :=
  l.length = n ∧ (0 < n → ∃ b o, A = Option.some ⟨b, o, none⟩ ∧ b < w.heap.size ∧ ∀ k (h : k < l.length), w.cell? ⟨b, o + k, none⟩ = Option.some l[k])

section
variable {w w' : World} {A : Option Addr} {n m : Nat} {l : List Value}
theorem SlIn.rd {cap : Nat} (h : SlIn w A n cap l) : Rd w A n l := ⟨h.1, h.2.2.2⟩
theorem Rd.nil : Rd w A 0 [] := ⟨rfl, fun h => absurd h (by omega)⟩
/-- Element k: where it lies, and what is there. -/
theorem Rd.at_ (h : Rd w A n l) (k : Nat) (hk : k < n) : ∃ b o, A = Option.some ⟨b, o, none⟩ ∧ w.cell? ⟨b, o + k, none⟩ = l[k]? := by
  obtain ⟨hl, h⟩ := h
  obtain ⟨b, o, hA, _, hc⟩ := h (by omega)
  exact ⟨b, o, hA, by rw [hc k (by omega), List.getElem?_eq_getElem (by omega)]⟩
theorem Rd.len (h : Rd w A n l) : l.length = n := h.1
theorem Rd.keep (h : Rd w A n l) (hs : w.heap.size ≤ w'.heap.size) (hk : ∀ b o, b < w.heap.size → w'.cell? ⟨b, o, none⟩ = w.cell? ⟨b, o, none⟩) : Rd w' A n l :=
  ⟨h.1, fun hn => by
    obtain ⟨b, o, hA, hb, hc⟩ := h.2 hn
    exact ⟨b, o, hA, by omega, fun k hk' => (hk b _ hb).trans (hc k hk')⟩⟩
theorem Rd.below (h : Rd w A n l) (hb : Below w.heap.size w w') : Rd w' A n l := h.keep hb.size fun b o hl => hb.cell (p := ⟨b, o, none⟩) hl
theorem Rd.drewN (h : Rd w A n l) (k : Nat) : Rd (w.drewN k) A n l := h
theorem Rd.drew (h : Rd w A n l) : Rd w.drew A n l := h
theorem Rd.alloc (h : Rd w A n l) (o : Obj) : Rd (w.alloc o) A n l := h.below ((Below.refl _ _).alloc (Nat.le_refl _) _)
theorem Rd.take (h : Rd w A n l) (k : Nat) (hk : k ≤ n) : Rd w A k (l.take k) := by
  refine ⟨by rw [List.length_take, h.1]; omega, fun hn => ?_⟩
  obtain ⟨b, o, hA, hb, hc⟩ := h.2 (by omega)
  exact ⟨b, o, hA, hb, fun j hj => by rw [List.getElem_take]; exact hc j (by rw [List.length_take] at hj; omega)⟩
theorem Rd.one (w : World) (e : TypeId) (v : Value) : Rd (w.alloc (.cells #[v] e)) (Option.some ⟨w.heap.size, 0, none⟩) 1 [v] :=
  ⟨rfl, fun _ => ⟨_, _, rfl, by simp, fun k hk => by
    obtain rfl : k = 0 := by simpa using hk
    exact (Arr.of_new w e #[v]).cell 0 (by simp)⟩⟩
theorem Rd.of_arr {g : Nat} {t : TypeId} (h : Arr w g t l) : Rd w (Option.some ⟨g, 0, none⟩) l.length l :=
  ⟨rfl, fun _ => ⟨g, 0, rfl, h.lt, fun k hk => by rw [Nat.zero_add]; exact h.cell k hk⟩⟩
end

/-- The slice value v owns the one-cell elements xs, in a row from block number B on. -/
def Own (w : World) (B : Nat) (e : TypeId) (v : Value) (xs : List Value) : Prop := w.ownsRow B e 1 v xs.length xs

section
variable {w w' : World} {B : Nat} {e : TypeId} {v : Value} {xs : List Value}
theorem Own.nil (w : World) (B : Nat) (e : TypeId) : Own w B e (.slice none 0 0) [] := World.ownsRow_nil _ _ _ _
theorem Own.form (h : Own w B e v xs) : ∃ A c, v = .slice A xs.length c ∧ Rd w A xs.length xs ∧ xs.length ≤ c := by
  rcases h.2 with ⟨rfl, hx⟩ | ⟨g, cap, cur, rfl, _, hg, hnc, _, hcs, ht⟩
  · obtain rfl : xs = [] := List.eq_nil_of_length_eq_zero hx
    exact ⟨none, 0, rfl, Rd.nil, Nat.le_refl _⟩
  · refine ⟨_, _, rfl, ⟨rfl, fun hn => ⟨g, 0, rfl, ?_, fun k hk => ?_⟩⟩, hnc⟩
    · rcases Nat.lt_or_ge g w.heap.size with hl | hl
      · exact hl
      · rw [Array.getElem?_eq_none hl] at hg; cases hg
    · have := h.cells (g := g) rfl k xs[k] (List.getElem?_eq_getElem hk)
      unfold Addr.add at this
      rw [Nat.zero_add]
      by_cases hk0 : k = 0
      · subst hk0; simpa using this
      · simpa [hk0] using this
theorem Own.alloc (h : Own w B e v xs) (o : Obj) : Own (w.alloc o) B e v xs := World.ownsRow.alloc h o
theorem Own.lt (h : Own w B e v xs) (k : Nat) (hk : v.ownBlock = Option.some k) : B ≤ k ∧ k < w.heap.size := World.ownsRow.lt h k hk
theorem Own.keep (h : Own w B e v xs) {row : Option Nat} (hg : w.grownBy w' row) (hne : v.ownBlock = none ∨ v.ownBlock ≠ row) : Own w' B e v xs := World.ownsRow.kept h hg hne
theorem Own.below {C : Nat} (h : Own w B e v xs) (hb : Below C w w') (hC : ∀ k, v.ownBlock = Option.some k → k < C) : Own w' B e v xs := by
  refine ⟨h.1, ?_⟩
  rcases h.2 with h2 | ⟨g, cap, cur, hv, hg, hh, r⟩
  · exact .inl h2
  · exact .inr ⟨g, cap, cur, hv, hg, by rw [hb.block g (hC g (by rw [hv]; rfl))]; exact hh, r⟩
theorem Own.drew (h : Own w B e v xs) : Own w.drew B e v xs := h
theorem Own.drewN (h : Own w B e v xs) (k : Nat) : Own (w.drewN k) B e v xs := h
theorem Own.mono {B' : Nat} (h : Own w B e v xs) (hB : B' ≤ B) : Own w B' e v xs := by
  refine ⟨h.1, ?_⟩
  rcases h.2 with h2 | ⟨g, cap, cur, hv, hg, r⟩
  · exact .inl h2
  · exact .inr ⟨g, cap, cur, hv, by omega, r⟩
/-- Behind an append: nothing below B has turned. -/
theorem below_app {C : Nat} {a : World} (hb : Below C a w) (h : Own w B e v xs) (hg : w.grownBy w' v.ownBlock) (hC : C ≤ B) (hs : C ≤ w.heap.size) : Below C a w' :=
  hb.grown hg hs fun k hk => Nat.le_trans hC (h.lt k hk).1
end

theorem rd_news {w : World} {ad : Addr} {n : Nat} {l : List Value} (h : Rd w (some ad) n l) : ∀ j u, l[j]? = some u → w.cell? (ad.add j) = some u := by
  intro j u hu
  have hj : j < l.length := (List.getElem?_eq_some_iff.1 hu).1
  obtain ⟨b, o, hA, _, hc⟩ := h.2 (by have := h.1; omega)
  injection hA with hA
  subst hA
  have := hc j hj
  unfold Addr.add
  by_cases hj0 : j = 0
  · subst hj0; simpa [hu] using this.trans (by rw [← hu, List.getElem?_eq_getElem hj])
  · simp only [hj0, if_false]; rw [this, ← hu, List.getElem?_eq_getElem hj]

/-- append onto a slice that the call owns (or nil), of elements of one cell: the source may be nil or empty. -/
theorem run_app {P : Program} (w : World) (B : Nat) (t ty e : TypeId) (i : TypeInfo) (z : Value) (bytes : Nat) (ht : P.underlying t = some (.slice e)) (hi : P.info? e = some i) (hz : i.zero = some z)
    (hsize : i.size = 1) (hby : i.bytes = bytes) (hzs : z.cells.size = 1) (v : Value) (xs : List Value) (hown : Own w B e v xs)
    (A : Option Addr) (m c : Nat) (news : List Value) (hr : Rd w A m news) (h1 : ∀ u ∈ news, u.oneCell' = true)
    (h63 : xs.length + m ≤ maxLen) (hbytes : (xs.length + m) * bytes ≤ 140737488355328) (hB : B ≤ w.heap.size) :
    ∃ v' w', (Builtin.append_ #[t, t] ty #[v, .slice A m c]).run P w = .ok v' w' ∧ Own w' B e v' (xs ++ news) ∧ w.grownBy w' v.ownBlock ∧
      (v'.ownBlock = v.ownBlock ∨ v'.ownBlock = some w.heap.size) := by
  rcases A with _ | ad
  · have hm : m = 0 := by
      rcases Nat.eq_zero_or_pos m with h0 | h0
      · exact h0
      · obtain ⟨b, o, h, _⟩ := hr.2 h0; cases h
    subst hm
    have hn : news = [] := List.eq_nil_of_length_eq_zero hr.1
    subst hn
    refine ⟨v, w, ?_, by simpa using hown, World.grownBy.refl w _, .inl rfl⟩
    rcases hown.2 with ⟨rfl, hx⟩ | ⟨g, cap, cur, rfl, _, _, hnc, _⟩
    · simp [Builtin.append_, run_underlying ht, sizeOf, typeInfo, hi, Builtin.lenOf, Builtin.firstCells]
    · simp [Builtin.append_, run_underlying ht, sizeOf, typeInfo, hi, Builtin.lenOf, Builtin.firstCells, hnc, storeCells]
  · obtain ⟨v', w', hrun, h2, h3, _, h5⟩ := run_append_own_at (P := P) w B t ty e i z 1 bytes ht hi hz hsize hby hzs (by omega) v xs.length xs hown ad m c news (by rw [hr.1]; omega)
      (rd_news hr) h1 h63 hbytes hB
    exact ⟨v', w', hrun, by unfold Own; rw [List.length_append, hr.1]; exact h2, h3, h5⟩

section
variable {P : Program} {ops : Array Oper} {o : Oper} {a : Act}
theorem wp_app (w : World) {K : Act → World → Prop} {Q : Exit → Act → World → Prop} (s x : Operand) (t : TypeId)
    (ho : o.op = .call { callee := .builtin .append, args := #[s, x], argTypes := #[t, t] })
    (B : Nat) (e : TypeId) (i : TypeInfo) (z : Value) (bytes : Nat) (ht : P.underlying t = some (.slice e)) (hi : P.info? e = some i) (hz : i.zero = some z)
    (hsize : i.size = 1) (hby : i.bytes = bytes) (hzs : z.cells.size = 1) (v : Value) (xs : List Value) (hs : a.eval s = v) (hown : Own w B e v xs)
    (A : Option Addr) (m c : Nat) (news : List Value) (hx : a.eval x = .slice A m c) (hr : Rd w A m news) (h1 : ∀ u ∈ news, u.oneCell' = true)
    (h63 : xs.length + m ≤ maxLen) (hbytes : (xs.length + m) * bytes ≤ 140737488355328) (hB : B ≤ w.heap.size)
    (h : ∀ v' w', Own w' B e v' (xs ++ news) → w.grownBy w' v.ownBlock → (v'.ownBlock = v.ownBlock ∨ v'.ownBlock = some w.heap.size) → K (a.put o.dst v') w') : o.wp P a w K Q := by
  obtain ⟨v', w', hrun, h2, h3, h4⟩ := run_app (P := P) w B t o.type e i z bytes ht hi hz hsize hby hzs v xs hown A m c news hr h1 h63 hbytes hB
  unfold Oper.wp execOp
  simp only [ho, resolve, invoke, builtin, Sem.run_bind, Sem.run_pure, Result.andThen_ok, List.map_toArray, List.map_cons, List.map_nil, hs, hx, hrun]
  exact h v' w' h2 h3 h4

theorem wpList_app (w : World) {rest : List Oper} {Q : Exit → Act → World → Prop} (hgd : o.guard = none) (s x : Operand) (t : TypeId)
    (ho : o.op = .call { callee := .builtin .append, args := #[s, x], argTypes := #[t, t] })
    (B : Nat) (e : TypeId) (i : TypeInfo) (z : Value) (bytes : Nat) (ht : P.underlying t = some (.slice e)) (hi : P.info? e = some i) (hz : i.zero = some z)
    (hsize : i.size = 1) (hby : i.bytes = bytes) (hzs : z.cells.size = 1) (v : Value) (xs : List Value) (hs : a.eval s = v) (hown : Own w B e v xs)
    (A : Option Addr) (m c : Nat) (news : List Value) (hx : a.eval x = .slice A m c) (hr : Rd w A m news) (h1 : ∀ u ∈ news, u.oneCell' = true)
    (h63 : xs.length + m ≤ maxLen) (hbytes : (xs.length + m) * bytes ≤ 140737488355328) (hB : B ≤ w.heap.size)
    (h : ∀ v' w', Own w' B e v' (xs ++ news) → w.grownBy w' v.ownBlock → (v'.ownBlock = v.ownBlock ∨ v'.ownBlock = some w.heap.size) → wpList P ops Q rest (a.put o.dst v') w') : wpList P ops Q (o :: rest) a w :=
  wpList_plain hgd fun _ hK => wp_app w s x t ho B e i z bytes ht hi hz hsize hby hzs v xs hs hown A m c news hx hr h1 h63 hbytes hB fun v' w' h2 h3 h4 => hK _ _ (h v' w' h2 h3 h4)

/-- The same inside a region that draws its order. -/
theorem step_app (w : World) {K : Act → World → Prop} {Q : Exit → Act → World → Prop} {E : Prop} (hgd : o.guard = none) (s x : Operand) (t : TypeId)
    (ho : o.op = .call { callee := .builtin .append, args := #[s, x], argTypes := #[t, t] })
    (B : Nat) (e : TypeId) (i : TypeInfo) (z : Value) (bytes : Nat) (ht : P.underlying t = some (.slice e)) (hi : P.info? e = some i) (hz : i.zero = some z)
    (hsize : i.size = 1) (hby : i.bytes = bytes) (hzs : z.cells.size = 1) (v : Value) (xs : List Value) (hs : a.eval s = v) (hown : Own w B e v xs)
    (A : Option Addr) (m c : Nat) (news : List Value) (hx : a.eval x = .slice A m c) (hr : Rd w A m news) (h1 : ∀ u ∈ news, u.oneCell' = true)
    (h63 : xs.length + m ≤ maxLen) (hbytes : (xs.length + m) * bytes ≤ 140737488355328) (hB : B ≤ w.heap.size)
    (h : ∀ v' w', Own w' B e v' (xs ++ news) → w.grownBy w' v.ownBlock → (v'.ownBlock = v.ownBlock ∨ v'.ownBlock = some w.heap.size) → K (a.put o.dst v') w') :
    if Region.wanted o (yielded ops a.tmps) = true then Oper.wp P o a w K Q else E := by
  rw [if_pos (by simp [Region.wanted, hgd])]
  exact wp_app w s x t ho B e i z bytes ht hi hz hsize hby hzs v xs hs hown A m c news hx hr h1 h63 hbytes hB h
end
end Go.Proofs.YtliephokeafllaaGreatDoor
