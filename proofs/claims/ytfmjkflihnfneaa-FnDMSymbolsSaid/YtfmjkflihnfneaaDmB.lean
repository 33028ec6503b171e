/- The table of the code: symbols() and what is read of its rows. -/
import Derived.Test.YtfmjkflihnfneaaProg
import Derived.Test.YtfmjkflihnfneaaMem
import Derived.Test.YtfmjkflihnfneaaDmT
import Derived.KernelRfl
import Derived.Laws.EntriesVeiled
import Derived.BigQuiet
import Derived.Deep.QuietTactic
namespace Go.Proofs.Ytfmjkflihnfneaa
open Go.RowKit
set_option linter.unusedVariables false
def rowCells (rect : Bool) (dc ec mw mh dr rb re : Int) (f g : Nat) : List Value :=
  [.bool rect, .int .i64 dc, .int .i64 ec, .int .i64 mw, .int .i64 mh, .int .i64 dr, .int .i64 rb, .int .i64 re, .func (.func f) #[] #[], .func (.func g) #[] #[]]
def infCells (k : Nat) : List Value :=
  rowCells (inn k 0 == 1) (inn k 1 : Nat) (inn k 2 : Nat) (inn k 3 : Nat) (inn k 4 : Nat) (inn k 5 : Nat) (if k = 29 then -1 else (inn k 6 : Nat)) (inn k 7 : Nat) (if k = 29 then 35 else 33) (if k = 29 then 36 else 34)
/-- From block B on the blocks of the rows L have been laid, and nothing below B has turned. -/
def Tab (w0 w : World) (L : List (List Value)) : Prop :=
  w.heap.size = w0.heap.size + L.length ∧ Below w0.heap.size w0 w ∧ ∀ k (h : k < L.length), Arr w (w0.heap.size + k) 49 L[k]
theorem Tab.nil (w : World) : Tab w w [] := ⟨by simp, Below.refl _ _, fun k h => absurd h (by simp)⟩
theorem Tab.push {w0 w : World} {L : List (List Value)} (h : Tab w0 w L) (cs : List Value) : Tab w0 (w.alloc (.cells cs.toArray 49)) (L ++ [cs]) := by
  obtain ⟨h1, h2, h3⟩ := h
  refine ⟨by simp [h1]; omega, h2.alloc (by omega) _, fun k hk => ?_⟩
  rw [List.length_append, List.length_singleton] at hk
  rcases Nat.lt_or_ge k L.length with hl | hl
  · rw [List.getElem_append_left hl]
    exact (h3 k hl).alloc _
  · obtain rfl : k = L.length := by omega
    rw [List.getElem_append_right (Nat.le_refl _)]
    simp only [Nat.sub_self, List.getElem_cons_zero]
    have := Arr.of_new w 49 cs.toArray
    rw [h1] at this
    simpa using this
/-- A new row. -/
def RowNew (w0 : World) (L : List (List Value)) (cs : List Value) (e : Ending) (w' : World) : Prop := e = .returned (.pointer (some ⟨w0.heap.size + L.length, 0, none⟩)) ∧ Tab w0 w' (L ++ [cs])
set_option maxRecDepth 20000 in
theorem newRS (rect : Bool) (dc ec mw mh dr rb re : Int) (w0 w : World) (L : List (List Value)) (h : Tab w0 w L) :
    Calls Try.prog 30 #[.bool rect, .int .i64 dc, .int .i64 ec, .int .i64 mw, .int .i64 mh, .int .i64 dr, .int .i64 rb, .int .i64 re] w (RowNew w0 L (rowCells rect dc ec mw mh dr rb re 33 34)) := by
  have H := hid (h.push (rowCells rect dc ec mw mh dr rb re 33 34))
  have E := hid h.1
  clear h
  go_enter Try.func30, Try.ntmps30
  go_wp2_with fail
  go_ret
  exact ⟨by rw [← E.out]; rfl, H.out⟩
set_option maxRecDepth 20000 in
theorem newInfo (rect : Bool) (dc ec mw mh dr : Int) (w0 w : World) (L : List (List Value)) (h : Tab w0 w L) :
    Calls Try.prog 29 #[.bool rect, .int .i64 dc, .int .i64 ec, .int .i64 mw, .int .i64 mh, .int .i64 dr] w (RowNew w0 L (rowCells rect dc ec mw mh dr dc ec 33 34)) := by
  have H := fun W h => newRS rect dc ec mw mh dr dc ec w0 W L h
  go_enter Try.func29, Try.ntmps29
  go_wp2_with fail
  refine (H _ h).mono ?_
  rintro e w1 ⟨rfl, h1⟩
  have H1 := hid h1
  clear h h1 H
  go_wp2_with fail
  go_ret
  exact ⟨rfl, H1.out⟩
theorem Tab.last {w0 w : World} {L : List (List Value)} {cs : List Value} (h : Tab w0 w (L ++ [cs])) : Arr w (w0.heap.size + L.length) 49 cs := by
  have := h.2.2 L.length (by simp)
  simpa using this
theorem Tab.setLast {w0 w : World} {L : List (List Value)} {cs : List Value} (h : Tab w0 w (L ++ [cs])) (j : Nat) (v : Value) : Tab w0 (w.setCell ⟨w0.heap.size + L.length, j, none⟩ v) (L ++ [cs.set j v]) := by
  have hl := h.last
  obtain ⟨h1, h2, h3⟩ := h
  refine ⟨by simpa using h1, h2.setCell (by simp) _, fun k hk => ?_⟩
  simp only [List.length_append, List.length_singleton] at hk h1
  rcases Nat.lt_or_ge k L.length with hlt | hge
  · have := h3 k (by simp; omega)
    rw [List.getElem_append_left hlt] at this ⊢
    exact this.far (by simp; omega) _
  · obtain rfl : k = L.length := by omega
    rw [List.getElem_append_right (Nat.le_refl _)]
    simp only [Nat.sub_self, List.getElem_cons_zero]
    exact hl.set j v
set_option maxRecDepth 20000 in
theorem new144 (w0 w : World) (L : List (List Value)) (h : Tab w0 w L) :
    Calls Try.prog 31 #[] w (RowNew w0 L (rowCells false 1558 620 22 22 36 (-1) 62 35 36)) := by
  have H := fun W h => newRS false 1558 620 22 22 36 (-1) 62 w0 W L h
  go_enter Try.func31, Try.ntmps31
  go_wp2_with fail
  refine (H _ h).mono ?_
  rintro e w1 ⟨rfl, h1⟩
  have H1 := hid h1
  have c8 := h1.last.cell? 8
  have c9 := h1.last.cell? 9
  have f8 := h1.last.frozen 8
  have f9 := h1.last.frozen 9
  simp only [rowCells, List.getElem?_cons_zero, List.getElem?_cons_succ] at c8 c9
  have H2 := hid ((h1.setLast 8 (.func (.func 35) #[] #[])).setLast 9 (.func (.func 36) #[] #[]))
  clear h h1 H
  go_wp2_with fail
  go_ret
  exact ⟨rfl, H2.out⟩
end Go.Proofs.Ytfmjkflihnfneaa
