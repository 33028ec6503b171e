/- spec.AZWordBits, spec.AZLay. -/
import Derived.Test.YtliephokeafllaaGreatDoorAzH
namespace Go.Proofs.YtliephokeafllaaGreatDoor
open Go.RowKit
set_option linter.unusedVariables false
set_option linter.unusedSimpArgs false

theorem azBitsN_le (c : Bool) {L : Nat} (hL : L ≤ 32) : azBitsN c L ≤ 20000 := by
  have h1 : (88 + 16 * L) * L ≤ (88 + 16 * 32) * 32 := Nat.mul_le_mul (by omega) hL
  have h2 : (112 + 16 * L) * L ≤ (112 + 16 * 32) * 32 := Nat.mul_le_mul (by omega) hL
  unfold azBitsN
  cases c <;> simp <;> omega
theorem Own.made {w : World} {B : Nat} (n : Nat) (hb : B ≤ w.heap.size) (hn : n ≤ 1000) : Own (w.alloc (.cells (madeCells #[.bool false] n) 4)) B 4 (.slice (some ⟨w.heap.size, 0, none⟩) n n) ((List.replicate n false).map Value.bool) := by
  have h := Own.lit (w := w) (B := B) (e := 4) (madeCells #[.bool false] n) hb (by simp [madeCells, maxLen]; omega)
  have e : (madeCells #[Value.bool false] n).toList = (List.replicate n false).map Value.bool := by
    apply List.ext_getElem
    · simp [madeCells]
    · intro i h1 h2
      simp [madeCells, Nat.mod_one]
  rw [e] at h
  simpa [madeCells] using h

/-- Bits of words, in new memory. -/
def WordsOut (b : List Bool) (w : World) (e : Ending) (w' : World) : Prop :=
  ∃ v, e = .returned v ∧ Own w' w.heap.size 4 v (b.map Value.bool) ∧ Below w.heap.size w w'

theorem brow_put (X : Nat → Nat → Bool) (W y x : Nat) (v : Bool) (r : Nat) : put (brow X W) y ((brow X W y).set x (.bool v)) r = brow (putG X y x v) W r := by
  unfold put
  by_cases e : r = y
  · rw [if_pos e, e]
    apply List.ext_getElem
    · simp [brow]
    · intro i h1 h2
      rw [List.getElem_set]
      simp only [brow, List.getElem_map, List.getElem_range, putG]
      by_cases e2 : x = i
      · rw [if_pos e2, if_pos ⟨trivial, e2.symm⟩]
      · rw [if_neg e2, if_neg (fun h => e2 h.2.symm)]
  · rw [if_neg e]
    unfold brow
    apply List.map_congr_left
    intro i _
    simp only [putG]
    rw [if_neg (fun h => e h.1)]

/-- The modules while they are laid: rows, places, the writer with its bits. -/
structure LaySt (w0 wr : World) (gp G q bb ob H : Nat) (gs : Nat → Nat) (pl : List Nat) (v : Value) (bs : List Bool) (c : Bool) (L at_ : Nat) (X : Nat → Nat → Bool) : Prop where
  up : RowsUp wr G 23 4 H H gs (brow X H)
  laid : LaidTo c L bs at_ X
  pls : Arr wr gp 3 (ints pl)
  wrt : Arr wr q 50 [v, .string ⟨#[]⟩, .int .i64 0]
  bits : ∀ k, k < bs.length → wr.cell? ⟨bb, ob + k, none⟩ = some (.bool (bs.getD k false))
  bl : Below w0.heap.size w0 wr
/-- The blocks are apart. -/
structure LaySep (n0 gp G q bb H : Nat) (gs : Nat → Nat) : Prop where
  a : gp < G
  b : ∀ r, r < H → G < gs r
  c : ∀ r, r < H → gs r < q
  d : ∀ r, r < H → gs r < bb
  e : n0 ≤ gp
theorem LaySt.drewN {w0 wr : World} {gp G q bb ob H : Nat} {gs : Nat → Nat} {pl : List Nat} {v : Value} {bs : List Bool} {c : Bool} {L at_ : Nat} {X : Nat → Nat → Bool} (h : LaySt w0 wr gp G q bb ob H gs pl v bs c L at_ X) (n : Nat) :
    LaySt w0 (wr.drewN n) gp G q bb ob H gs pl v bs c L at_ X := ⟨h.up.drewN n, h.laid, h.pls, h.wrt, h.bits, below_drewN h.bl n⟩
theorem LaySt.drew {w0 wr : World} {gp G q bb ob H : Nat} {gs : Nat → Nat} {pl : List Nat} {v : Value} {bs : List Bool} {c : Bool} {L at_ : Nat} {X : Nat → Nat → Bool} (h : LaySt w0 wr gp G q bb ob H gs pl v bs c L at_ X) :
    LaySt w0 wr.drew gp G q bb ob H gs pl v bs c L at_ X := ⟨h.up.drew, h.laid, h.pls, h.wrt, h.bits, h.bl.drew⟩
theorem LaySt.step {w0 wr : World} {gp G q bb ob H : Nat} {gs : Nat → Nat} {pl : List Nat} {v : Value} {bs : List Bool} {c : Bool} {L i k j n : Nat} {X : Nat → Nat → Bool}
    (h : LaySt w0 wr gp G q bb ob H gs pl v bs c L (azIdx c L i k j n) X) (hs : LaySep w0.heap.size gp G q bb H gs) (hI : AzIn c L i k j n) (hH : H = azWhole c L) :
    LaySt w0 (wr.setCell ⟨gs (azY c L i k j n), azX c L i k j n, none⟩ (.bool (bs.getD (azIdx c L i k j n) false))) gp G q bb ob H gs pl v bs c L (azIdx c L i k j n + 1) (putG X (azY c L i k j n) (azX c L i k j n) (bs.getD (azIdx c L i k j n) false)) := by
  have hy : azY c L i k j n < H := by rw [hH]; exact azPl_lt (azV_lt hI)
  have b1 := hs.b _ hy
  have c1 := hs.c _ hy
  have d1 := hs.d _ hy
  refine ⟨(h.up.set hy).congr (fun r hr => brow_put X H _ _ _ r), h.laid.next hI, h.pls.far (by have := hs.a; simp; omega) _, h.wrt.far (by simp; omega) _, fun t ht => ?_, ?_⟩
  · rw [World.cell?_of_block (w := wr) (Below.heap_setCell wr _ _ bb (by simp; omega))]
    exact h.bits t ht
  · exact h.bl.setCell (by have := hs.a; have := hs.e; simp; omega) _

/-- A symbol's modules. -/
def LayOut (c : Bool) (L : Nat) (b : List Bool) (w : World) (e : Ending) (w' : World) : Prop :=
  ∃ G gs X, e = .returned (.slice (some ⟨G, 0, none⟩) (azWhole c L) (azWhole c L)) ∧ RowsUp w' G 23 4 (azWhole c L) (azWhole c L) gs (brow X (azWhole c L)) ∧ LaidTo c L b (azBitsN c L) X ∧ Below w.heap.size w w' ∧ w.heap.size ≤ G
end Go.Proofs.YtliephokeafllaaGreatDoor
