/- The law of the bare symbol: what its loops keep. -/
import Derived.Test.YtliephokeafllaaGreatDoorBaA
import Derived.Test.YtliephokeafllaaGreatDoorBaC
namespace Go.Proofs.YtliephokeafllaaGreatDoor
open Go.RowKit
set_option linter.unusedVariables false
set_option linter.unusedSimpArgs false

/-- Three grids: the symbol's, the full one's, the used ones. -/
structure BaSt (w0 wr : World) (G H : Nat) (gs : Nat → Nat) (X : Nat → Nat → Bool) (G2 : Nat) (gs2 : Nat → Nat) (X2 : Nat → Nat → Bool) (G3 : Nat) (gs3 : Nat → Nat) (X3 : Nat → Nat → Bool) (c : Bool) (L BT : Nat) (b : List Bool) : Prop where
  up : RowsUp wr G 23 4 H H gs (brow X H)
  laid : LaidTo c L b BT X
  dat : RowsUp wr G2 23 4 H H gs2 (brow X2 H)
  use : RowsUp wr G3 23 4 H H gs3 (brow X3 H)
  bl : Below w0.heap.size w0 wr
structure BaSep (n0 H : Nat) (gs : Nat → Nat) (G2 : Nat) (gs2 : Nat → Nat) (G3 : Nat) (gs3 : Nat → Nat) : Prop where
  a : ∀ r, r < H → n0 ≤ gs r ∧ gs r < G2 ∧ gs r < G3
  b : ∀ r, r < H → G2 < gs2 r
  c : ∀ r, r < H → G3 < gs3 r
section
variable {w0 wr : World} {G H : Nat} {gs : Nat → Nat} {X : Nat → Nat → Bool} {G2 : Nat} {gs2 : Nat → Nat} {X2 : Nat → Nat → Bool} {G3 : Nat} {gs3 : Nat → Nat} {X3 : Nat → Nat → Bool} {c : Bool} {L BT : Nat} {b : List Bool}
theorem BaSt.drewN (h : BaSt w0 wr G H gs X G2 gs2 X2 G3 gs3 X3 c L BT b) (n : Nat) : BaSt w0 (wr.drewN n) G H gs X G2 gs2 X2 G3 gs3 X3 c L BT b :=
  ⟨h.up.drewN n, h.laid, h.dat.drewN n, h.use.drewN n, below_drewN h.bl n⟩
theorem BaSt.step (h : BaSt w0 wr G H gs X G2 gs2 X2 G3 gs3 X3 c L BT b) (hs : BaSep w0.heap.size H gs G2 gs2 G3 gs3) (hU : UsedTo c L (azSide c L * azSide c L) X3) {y x : Nat} (hy : y < H) (hn : X3 y x = false) (v : Bool) :
    BaSt w0 (wr.setCell ⟨gs y, x, none⟩ (.bool v)) G H gs (putG X y x v) G2 gs2 X2 G3 gs3 X3 c L BT b := by
  obtain ⟨a1, a2, a3⟩ := hs.a y hy
  refine ⟨(h.up.set hy).congr (fun r hr => brow_put X H _ _ _ r), h.laid.bare hU hn, h.dat.far (by simp; omega) (fun r hr => by have := hs.b r hr; simp; omega) _, h.use.far (by simp; omega) (fun r hr => by have := hs.c r hr; simp; omega) _, ?_⟩
  exact h.bl.setCell (by simp; omega) _
/-- The cells of a grid. -/
theorem RowsUp.cells (h : RowsUp wr G 23 4 H H gs (brow X H)) {y x : Nat} (hy : y < H) (hx : x < H) :
    wr.cell? ⟨G, y, none⟩ = some (.slice (some ⟨gs y, 0, none⟩) H H) ∧ wr.cell? ⟨gs y, x, none⟩ = some (.bool (X y x)) ∧ wr.frozen? ⟨gs y, x, none⟩ = false := by
  refine ⟨?_, ?_, (h.row y hy).1.frozen x⟩
  · have ctop := h.top.cell y (by simp; omega)
    rw [List.getElem_append_left (by simp; exact hy)] at ctop
    simp only [List.getElem_map, List.getElem_range, brow_len] at ctop
    exact ctop
  · rw [(h.row y hy).1.cell x (by rw [brow_len]; exact hx)]
    simp [brow]
end
theorem rep_set (al M i : Nat) (hi : i < al) : (ints (List.replicate i M ++ List.replicate (al - i) 0)).set i (.int .i64 (M : Nat)) = ints (List.replicate (i + 1) M ++ List.replicate (al - (i + 1)) 0) := by
  rw [ints_set]
  congr 1
  rw [List.set_append_right _ _ (by simp), List.length_replicate, Nat.sub_self, show al - i = (al - (i + 1)) + 1 from by omega, List.replicate_succ, List.set_cons_zero, List.replicate_succ', List.append_assoc]
  rfl
theorem ints_rep (al M : Nat) : ints (List.replicate al M) = List.replicate al (.int .i64 (M : Nat)) := by simp [ints]
theorem take_of_app {l t : List Nat} {ws : List Nat} {n : Nat} (h : ws = l ++ t) (hl : l.length = n) : ws.take n = l := by
  subst h hl
  simp
end Go.Proofs.YtliephokeafllaaGreatDoor
