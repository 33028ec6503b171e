/- spec.BIRows of no bits. -/
import Derived.Test.YtliephokeafllaaGreatDoorAzG
import Derived.Test.YtliephokeafllaaGreatDoorMatP
namespace Go.Proofs.YtliephokeafllaaGreatDoor
open Go.RowKit
set_option linter.unusedVariables false
set_option linter.unusedSimpArgs false

theorem infoRow : (Tryz.prog.info? 23).map (fun i => (i.zero, i.size, i.bytes)) = some (some (.slice none 0 0), 1, 24) := by kernel_rfl
/-- Rows that are the call's own. -/
def RowsNew (H : Nat) (X : Nat → List Value) (w : World) (e : Ending) (w' : World) : Prop :=
  ∃ gs, e = .returned (.slice (some ⟨w.heap.size, 0, none⟩) H H) ∧ RowsUp w' w.heap.size 23 4 H H gs X ∧ Below w.heap.size w w'
def noB : Nat → Nat → Bool := fun _ _ => false
theorem brow_no (W r : Nat) : brow noB W r = List.replicate W (.bool false) := by
  apply List.ext_getElem
  · simp [brow]
  · intro i h1 h2; simp [brow, noB]

set_option maxRecDepth 20000 in
set_option maxHeartbeats 4000000 in
theorem rowsNil (W H : Nat) (w : World) (hW1 : 1 ≤ W) (hW : W ≤ 200) (hH : H ≤ 200) :
    Calls Tryz.prog 14 #[.int .i64 (W : Nat), .int .i64 (H : Nat), .slice none 0 0] w (RowsNew H (brow noB W) w) := by
  obtain ⟨i1, hi1, hy0, hy1, hy2⟩ := info_of infoRow
  obtain ⟨i4, hi4, hb0, hb1, hb2⟩ := info_of info4
  have hmk := fun W => run_make (P := Tryz.prog) W 28 23 i1 (.slice none 0 0) Tryz.underlying28 hi1 hy0 .i64 .i64 (H : Int) (H : Int) (by omega) (by omega) (by rw [hy2]; omega) (by omega)
  simp only [hy1] at hmk
  have hmk2 := fun W' => run_make (P := Tryz.prog) W' 23 4 i4 (.bool false) Tryz.underlying23 hi4 hb0 .i64 .i64 (W : Int) (W : Int) (by omega) (by omega) (by rw [hb2]; omega) (by omega)
  simp only [hb1] at hmk2
  go_enter Tryz.func14, Tryz.ntmps14
  go_wp2_with fail
  have HA := hid (Arr.made w 23 (.slice none 0 0) H)
  have HB := hid (show Below w.heap.size w (w.alloc (.cells (madeCells #[.slice none 0 0] H) 23)) from (Below.refl _ _).alloc (Nat.le_refl _) _)
  generalize w.alloc (.cells (madeCells #[.slice none 0 0] H) 23) = w1 at *
  clear hmk
  go_loopw [8] (fun iv wr => ∃ (k : Nat) (gs : Nat → Nat), k ≤ H ∧ iv = .int .i64 (k : Nat) ∧ Hid (RowsUp wr w.heap.size 23 4 H k gs (brow noB W)) ∧ Hid (Below w.heap.size w wr)) (fun iv _ => H - (intOf iv).toNat)
  case atStart => exact ⟨0, fun _ => 0, by omega, rfl, hid (RowsUp.zero HA.out), HB⟩
  case round =>
    clear HA HB
    obtain ⟨k, gs, hk, rfl, HU, HB⟩ := hrel
    by_cases hlt : k < H
    · have hlt' : (k : Int) < (H : Int) := by omega
      have htop := HU.out.top.alloc (.cells (madeCells #[.bool false] W) 4)
      obtain ⟨v0, hv0⟩ := htop.has k (by simp; omega)
      have fz := htop.frozen k
      have hGl := HU.out.top.lt
      clear htop
      go_wp2_with fail
      have HG1 := hid (show Arr ((wr.setCell ⟨w.heap.size, k, none⟩ (.slice (some ⟨wr.heap.size, 0, none⟩) W W)).alloc (.cells (madeCells #[.bool false] W) 4)) wr.heap.size 4 (brow noB W k) from by have := Arr.made (wr.setCell ⟨w.heap.size, k, none⟩ (.slice (some ⟨wr.heap.size, 0, none⟩) W W)) 4 (.bool false) W; rw [World.size_setCell] at this; rw [brow_no]; exact this)
      have HBB := hid (show Below w.heap.size w ((wr.setCell ⟨w.heap.size, k, none⟩ (.slice (some ⟨wr.heap.size, 0, none⟩) W W)).alloc (.cells (madeCells #[.bool false] W) 4)) from (HB.out.setCell (by simp) _).alloc (by rw [World.size_setCell]; exact HB.out.size) _)
      have HN := hid (HU.out.next (cs := madeCells #[.bool false] W) (m := W) (x := brow noB W k) (w' := (wr.setCell ⟨w.heap.size, k, none⟩ (.slice (some ⟨wr.heap.size, 0, none⟩) W W)).alloc (.cells (madeCells #[.bool false] W) 4)) hlt (brow_len _ _ _) (Below.refl _ _) HG1.out)
      have HE := hid (HN.out.congr (Y := brow noB W) (fun r hr => by
        unfold put
        by_cases e : r = k
        · rw [if_pos e, e]
        · rw [if_neg e]))
      generalize (wr.setCell ⟨w.heap.size, k, none⟩ (.slice (some ⟨wr.heap.size, 0, none⟩) W W)).alloc (.cells (madeCells #[.bool false] W) 4) = w2 at *
      clear hv0 fz HG1 HN HB HU hmk2
      by_cases h1 : 0 < W
      · have h1' : (0 : Int) < (W : Int) := by omega
        go_wp2_with fail
        go_loopw [9] (fun cv wr => cv = .int .i64 0 ∧ w2 = wr) (fun _ _ => 0)
        case atStart => exact ⟨rfl, rfl⟩
        case round =>
          obtain ⟨rfl, rfl⟩ := hrel
          go_wp2_with fail
          go_roundw
          case rel => exact ⟨k + 1, _, by omega, by go_num, HE, HBB⟩
          case measure => simp [intOf]; omega
      · omega
    · obtain rfl : k = H := by omega
      have hlt' : ¬ (k : Int) < (k : Int) := by omega
      go_wp2_with fail
      go_ret
      exact ⟨gs, rfl, HU.out, HB.out⟩
end Go.Proofs.YtliephokeafllaaGreatDoor
