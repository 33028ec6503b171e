/- Rows of elements of one cell each: as they come in, and as a call makes them, one block a row. -/
import Derived.Test.YtliephokeafllaaGreatDoorOpen
namespace Go.Proofs.YtliephokeafllaaGreatDoor
open Go.ChangeShapes Go.WideShapes Go.RowKit
set_option linter.unusedVariables false

/-- n rows that read as the lists X 0, X 1, .. -/
def RdRows (w : World) (A : Option Addr) (n : Nat) (X : Nat → List Value) : Prop :=
  ∃ (R : Nat → Option Addr) (C : Nat → Nat), Rd w A n ((List.range n).map fun k => Value.slice (R k) (X k).length (C k)) ∧ ∀ k, k < n → Rd w (R k) (X k).length (X k) ∧ (X k).length ≤ C k

section
variable {w w' : World} {A : Option Addr} {n : Nat} {X Y : Nat → List Value}
theorem RdRows.below (h : RdRows w A n X) (hb : Below w.heap.size w w') : RdRows w' A n X := by
  obtain ⟨R, C, h1, h2⟩ := h
  exact ⟨R, C, h1.below hb, fun k hk => ⟨(h2 k hk).1.below hb, (h2 k hk).2⟩⟩
theorem RdRows.congr (h : RdRows w A n X) (e : ∀ k, k < n → X k = Y k) : RdRows w A n Y := by
  obtain ⟨R, C, h1, h2⟩ := h
  refine ⟨R, C, ?_, fun k hk => by rw [← e k hk]; exact h2 k hk⟩
  rwa [show ((List.range n).map fun k => Value.slice (R k) (Y k).length (C k)) = (List.range n).map fun k => Value.slice (R k) (X k).length (C k) from List.map_congr_left fun k hk => by rw [e k (List.mem_range.1 hk)]]
/-- Row k: where its slice lies, and what it reads as. -/
theorem RdRows.at_ (h : RdRows w A n X) (k : Nat) (hk : k < n) : ∃ b o Ra c, A = some ⟨b, o, none⟩ ∧ b < w.heap.size ∧ w.cell? ⟨b, o + k, none⟩ = some (.slice Ra (X k).length c) ∧ Rd w Ra (X k).length (X k) ∧ (X k).length ≤ c := by
  obtain ⟨R, C, h1, h2⟩ := h
  obtain ⟨b, o, hA, hb, hc⟩ := h1.2 (by omega)
  refine ⟨b, o, R k, C k, hA, hb, ?_, (h2 k hk).1, (h2 k hk).2⟩
  rw [hc k (by simpa using hk)]
  simp
/-- The rows, once for all that follows. -/
theorem RdRows.opened (h : RdRows w A n X) (hn : 0 < n) : ∃ (b o : Nat) (R : Nat → Option Addr) (C : Nat → Nat), A = some ⟨b, o, none⟩ ∧ b < w.heap.size ∧
    ∀ w', Below w.heap.size w w' → ∀ k, k < n → w'.cell? ⟨b, o + k, none⟩ = some (.slice (R k) (X k).length (C k)) ∧ Rd w' (R k) (X k).length (X k) ∧ (X k).length ≤ C k := by
  obtain ⟨R, C, h1, h2⟩ := h
  obtain ⟨b, o, hA, hb, hc⟩ := h1.2 hn
  refine ⟨b, o, R, C, hA, hb, fun w' hw k hk => ⟨?_, (h2 k hk).1.below hw, (h2 k hk).2⟩⟩
  rw [hw.cell (p := ⟨b, o + k, none⟩) hb, hc k (by simpa using hk)]
  simp
theorem RdRows.take (h : RdRows w A n X) (m : Nat) (hm : m ≤ n) : RdRows w A m X := by
  obtain ⟨R, C, h1, h2⟩ := h
  refine ⟨R, C, ?_, fun k hk => h2 k (by omega)⟩
  have := h1.take m hm
  rwa [← List.map_take, List.take_range, Nat.min_eq_left hm] at this
/-- One row of bools: its element c. -/
theorem rd_bool {A : Option Addr} {l : List Bool} (h : Rd w A n (l.map Value.bool)) (k : Nat) (hk : k < n) : ∃ b o, A = some ⟨b, o, none⟩ ∧ b < w.heap.size ∧ w.cell? ⟨b, o + k, none⟩ = some (.bool (l.getD k false)) := by
  obtain ⟨b, o, hA, hb, hc⟩ := h.2 (by omega)
  have hl : l.length = n := by have := h.1; simpa using this
  refine ⟨b, o, hA, hb, ?_⟩
  rw [hc k (by rw [List.length_map]; omega)]
  simp [List.getD, List.getElem?_eq_getElem (show k < l.length by omega)]
end

/-- Rows of bools that came in. -/
def RowsIn (w : World) (A : Option Addr) (n cap : Nat) (zs : List (List Bool)) : Prop :=
  zs.length = n ∧ n ≤ cap ∧ cap ≤ maxLen ∧ RdRows w A n (fun k => (zs.getD k []).map Value.bool) ∧ ∀ k, k < n → (zs.getD k []).length ≤ maxLen

section
variable {H : Type} {enc : TypeId × Value → H} {P : Program} {w : World} {t e q : TypeId} {fuel : Nat} {A : Option Addr} {len cap : Nat} {x : DataW H × List MemPlace}
theorem addr_spot {w : World} {a : Addr} {v : Value} (h : w.cell? (a.add 0) = some v) : ∃ b o, a = ⟨b, o, none⟩ ∧ b < w.heap.size := by
  obtain ⟨b, off, spot⟩ := a
  have hs : spot = none := by simpa [Addr.add] using World.cell?_spot h
  subst hs
  refine ⟨b, off, rfl, ?_⟩
  have h0' : w.cell? ⟨b, off, none⟩ = some v := by simpa [Addr.add] using h
  unfold World.cell? at h0'
  rcases Nat.lt_or_ge b w.heap.size with hl | hl
  · exact hl
  · simp only [Array.getElem?_eq_none hl] at h0'; cases h0'
theorem rd_of_adds {w : World} {a : Addr} {l : List Value} (hc : ∀ i (hi : i < l.length), w.cell? (a.add i) = some l[i]) : Rd w (some a) l.length l := by
  refine ⟨rfl, fun hn => ?_⟩
  obtain ⟨b, o, rfl, hb⟩ := addr_spot (hc 0 hn)
  refine ⟨b, o, rfl, hb, fun k hk => ?_⟩
  have := hc k hk
  unfold Addr.add at this
  by_cases hk0 : k = 0
  · subst hk0; simpa using this
  · simpa [hk0] using this

theorem rowsIn_bools {held : Bool} (ht : P.underlying t = some (.slice e)) (he : P.underlying e = some (.slice q)) (hq : P.underlying q = some .bool)
    (ce : P.cellsOf e = 1) (cq : P.cellsOf q = 1) (h : DataW.trod enc P w 0 (fun _ => true) held fuel t (Value.slice A len cap).cells.toList = some x) :
    ∃ zs : List (List Bool), RowsIn w A len cap zs := by
  rcases Go.Deep.open_bool_rows ht he hq ce cq h with ⟨hcs, _⟩ | ⟨a, l, c, RA, L, C, B, hcs, _, hl, hm, _, hr⟩
  · simp [Value.cells] at hcs
    obtain ⟨rfl, rfl, rfl⟩ := hcs
    exact ⟨[], rfl, Nat.le_refl _, by unfold maxLen; omega, ⟨fun _ => none, fun _ => 0, Rd.nil, fun k hk => absurd hk (by omega)⟩, fun k hk => absurd hk (by omega)⟩
  · simp [Value.cells] at hcs
    obtain ⟨rfl, rfl, rfl⟩ := hcs
    have hX : ∀ k, k < len → (((List.range len).map fun r => (List.range (L r)).map (B r)).getD k []) = (List.range (L k)).map (B k) := fun k hk => by
      simp [List.getD, List.getElem?_range hk]
    refine ⟨(List.range len).map fun r => (List.range (L r)).map (B r), by simp, hl, hm, ⟨RA, C, ?_, fun k hk => ?_⟩, fun k hk => ?_⟩
    · have h1 := rd_of_adds (w := w) (a := a) (l := (List.range len).map fun k => Value.slice (RA k) (L k) (C k)) (fun i hi => by
        simp at hi
        rw [(hr i (by omega)).1]
        simp)
      have e1 : ((List.range len).map fun k => Value.slice (RA k) ((((List.range len).map fun r => (List.range (L r)).map (B r)).getD k []).map Value.bool).length (C k)) = (List.range len).map fun k => Value.slice (RA k) (L k) (C k) := List.map_congr_left fun k hk => by
        rw [hX k (List.mem_range.1 hk)]; simp
      rw [e1]
      simpa using h1
    · have hX2 := congrArg (List.map Value.bool) (hX k hk)
      simp only
      rw [hX2]
      obtain ⟨_, h2, h3, h4, h5⟩ := hr k (by omega)
      refine ⟨?_, by simpa using h2⟩
      cases hA : RA k with
      | none =>
        have h0 := h4 hA
        have hL0 : L k = 0 := by omega
        rw [hL0]
        exact Rd.nil
      | some a' =>
        have h1 := rd_of_adds (w := w) (a := a') (l := ((List.range (L k)).map (B k)).map Value.bool) (fun i hi => by
          simp at hi
          rw [(h5 a' hA).2 i (by omega)]
          simp)
        exact h1
    · rw [hX k hk]
      obtain ⟨_, h2, h3, h4, h5⟩ := hr k (by omega)
      simp
      omega
end

/-- k rows of n have been made, each a block of its own behind the block of the rows. -/
structure RowsUp (w : World) (G : Nat) (tS e : TypeId) (n k : Nat) (gs : Nat → Nat) (X : Nat → List Value) : Prop where
  top : Arr w G tS ((List.range k).map (fun r => Value.slice (some ⟨gs r, 0, none⟩) (X r).length (X r).length) ++ List.replicate (n - k) (.slice none 0 0))
  row : ∀ r, r < k → Arr w (gs r) e (X r) ∧ G < gs r
  inc : ∀ i j, i < j → j < k → gs i < gs j
def put {α : Type} (f : Nat → α) (k : Nat) (v : α) : Nat → α := fun j => if j = k then v else f j

section
variable {w w' : World} {G : Nat} {tS e : TypeId} {n k : Nat} {gs : Nat → Nat} {X : Nat → List Value}
theorem RowsUp.zero (h : Arr w G tS (List.replicate n (.slice none 0 0))) : RowsUp w G tS e n 0 gs X := ⟨by simpa using h, fun r hr => absurd hr (by omega), fun i j _ hj => absurd hj (by omega)⟩
theorem RowsUp.next (h : RowsUp w G tS e n k gs X) (hk : k < n) {cs : Array Value} {m : Nat} {x : List Value} (hx : x.length = m)
    (hb : Below w.heap.size ((w.setCell ⟨G, k, none⟩ (.slice (some ⟨w.heap.size, 0, none⟩) m m)).alloc (.cells cs e)) w') (hA : Arr w' w.heap.size e x) :
    RowsUp w' G tS e n (k + 1) (put gs k w.heap.size) (put X k x) := by
  have hGl := h.top.lt
  constructor
  · have h1 := ((h.top.set k (.slice (some ⟨w.heap.size, 0, none⟩) m m)).alloc (.cells cs e)).below hb hGl
    have e1 : ((List.range k).map (fun r => Value.slice (some ⟨gs r, 0, none⟩) (X r).length (X r).length) ++ List.replicate (n - k) (Value.slice none 0 0)).set k (.slice (some ⟨w.heap.size, 0, none⟩) m m)
      = (List.range (k + 1)).map (fun r => Value.slice (some ⟨put gs k w.heap.size r, 0, none⟩) (put X k x r).length (put X k x r).length) ++ List.replicate (n - (k + 1)) (Value.slice none 0 0) := by
      rw [List.range_succ, List.map_append, List.map_singleton, List.set_append_right _ _ (by simp), List.append_assoc]
      congr 1
      · exact List.map_congr_left fun r hr => by
          have := List.mem_range.1 hr
          unfold put
          rw [if_neg (by omega), if_neg (by omega)]
      · simp only [List.length_map, List.length_range, Nat.sub_self]
        rw [show n - k = (n - (k + 1)) + 1 from by omega, List.replicate_succ, List.set_cons_zero]
        unfold put
        simp [hx]
    rwa [e1] at h1
  · intro r hr
    by_cases hrk : r = k
    · subst hrk
      unfold put
      rw [if_pos rfl, if_pos rfl]
      exact ⟨hA, hGl⟩
    · obtain ⟨h1, h2⟩ := h.row r (by omega)
      unfold put
      rw [if_neg hrk, if_neg hrk]
      exact ⟨((h1.far (p := ⟨G, k, none⟩) (by simp; omega) _).alloc _).below hb h1.lt, h2⟩
  · intro i j hij hj
    unfold put
    rw [if_neg (show i ≠ k by omega)]
    by_cases hjk : j = k
    · rw [if_pos hjk]
      exact (h.row i (by omega)).1.lt
    · rw [if_neg hjk]
      exact h.inc i j hij (by omega)
theorem RowsUp.rd (h : RowsUp w G tS e n n gs X) : RdRows w (some ⟨G, 0, none⟩) n X := by
  have h1 := Rd.of_arr h.top
  simp only [Nat.sub_self, List.replicate_zero, List.append_nil, List.length_map, List.length_range] at h1
  exact ⟨fun k => some ⟨gs k, 0, none⟩, fun k => (X k).length, h1, fun k hk => ⟨Rd.of_arr (h.row k hk).1, Nat.le_refl _⟩⟩
theorem RowsUp.congr {Y : Nat → List Value} (h : RowsUp w G tS e n k gs X) (hY : ∀ r, r < k → X r = Y r) : RowsUp w G tS e n k gs Y := by
  refine ⟨?_, fun r hr => by rw [← hY r hr]; exact h.row r hr, h.inc⟩
  rw [show ((List.range k).map (fun r => Value.slice (some ⟨gs r, 0, none⟩) (Y r).length (Y r).length)) = (List.range k).map (fun r => Value.slice (some ⟨gs r, 0, none⟩) (X r).length (X r).length) from List.map_congr_left fun r hr => by rw [hY r (List.mem_range.1 hr)]]
  exact h.top
theorem RowsUp.below {B : Nat} (h : RowsUp w G tS e n k gs X) (hb : Below B w w') (hG : G < B) (hB : ∀ r, r < k → gs r < B) : RowsUp w' G tS e n k gs X :=
  ⟨h.top.below hb hG, fun r hr => ⟨(h.row r hr).1.below hb (hB r hr), (h.row r hr).2⟩, h.inc⟩
theorem RowsUp.alloc (h : RowsUp w G tS e n k gs X) (o : Obj) : RowsUp (w.alloc o) G tS e n k gs X :=
  ⟨h.top.alloc o, fun r hr => ⟨(h.row r hr).1.alloc o, (h.row r hr).2⟩, h.inc⟩
theorem RowsUp.far (h : RowsUp w G tS e n k gs X) {p : Addr} (hG : G ≠ p.block) (hB : ∀ r, r < k → gs r ≠ p.block) (v : Value) : RowsUp (w.setCell p v) G tS e n k gs X :=
  ⟨h.top.far hG v, fun r hr => ⟨(h.row r hr).1.far (hB r hr) v, (h.row r hr).2⟩, h.inc⟩
theorem RowsUp.ne (h : RowsUp w G tS e n k gs X) {i j : Nat} (hi : i < k) (hj : j < k) (hij : i ≠ j) : gs i ≠ gs j := by
  rcases Nat.lt_or_ge i j with h1 | h1
  · have := h.inc i j h1 hj; omega
  · have := h.inc j i (by omega) hi; omega
/-- An element is written. -/
theorem RowsUp.set (h : RowsUp w G tS e n k gs X) {y x : Nat} (hy : y < k) {v : Value} : RowsUp (w.setCell ⟨gs y, x, none⟩ v) G tS e n k gs (put X y ((X y).set x v)) := by
  have hGy := (h.row y hy).2
  have hlen : ∀ r, (put X y ((X y).set x v) r).length = (X r).length := fun r => by
    unfold put
    split
    · rename_i e; rw [List.length_set, e]
    · rfl
  refine ⟨?_, fun r hr => ⟨?_, (h.row r hr).2⟩, h.inc⟩
  · have h1 := h.top.far (p := ⟨gs y, x, none⟩) (by simp; omega) v
    rwa [show ((List.range k).map (fun r => Value.slice (some ⟨gs r, 0, none⟩) (put X y ((X y).set x v) r).length (put X y ((X y).set x v) r).length)) = (List.range k).map (fun r => Value.slice (some ⟨gs r, 0, none⟩) (X r).length (X r).length) from List.map_congr_left fun r _ => by rw [hlen r]]
  · unfold put
    by_cases hry : r = y
    · subst hry
      rw [if_pos rfl]
      exact (h.row r hr).1.set x v
    · rw [if_neg hry]
      exact (h.row r hr).1.far (by simpa using h.ne hr hy hry) v
theorem RowsUp.drew (h : RowsUp w G tS e n k gs X) : RowsUp w.drew G tS e n k gs X := ⟨h.top, h.row, h.inc⟩
theorem RowsUp.drewN (h : RowsUp w G tS e n k gs X) (j : Nat) : RowsUp (w.drewN j) G tS e n k gs X := ⟨h.top, h.row, h.inc⟩
end
end Go.Proofs.YtliephokeafllaaGreatDoor
