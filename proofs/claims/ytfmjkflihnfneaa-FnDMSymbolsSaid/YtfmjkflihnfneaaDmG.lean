/- impl.DMSymbolFor: the walk. -/
import Derived.Test.YtfmjkflihnfneaaDmF
import Derived.Laws.ResultCell
namespace Go.Proofs.Ytfmjkflihnfneaa
open Go.RowKit
set_option linter.unusedVariables false
theorem IsRow.row {w : World} {q k : Nat} (h : IsRow w q k) (hk : k ≠ 29) : Row w q (inn k 0 == 1) (inn k 1) (inn k 2) (inn k 3) (inn k 4) (inn k 5) (inn k 6 : Nat) (inn k 7 : Nat) 33 34 :=
  ⟨by unfold IsRow infCells at h; rwa [if_neg hk, if_neg hk, if_neg hk] at h⟩
theorem IsRow.row29 {w : World} {q : Nat} (h : IsRow w q 29) : Row w q (inn 29 0 == 1) (inn 29 1) (inn 29 2) (inn 29 3) (inn 29 4) (inn 29 5) (-1) (inn 29 7 : Nat) 35 36 := ⟨h⟩
theorem IsRow.rowAny {w : World} {q k : Nat} (h : IsRow w q k) : ∃ (rb : Int) (f g : Nat), Row w q (inn k 0 == 1) (inn k 1) (inn k 2) (inn k 3) (inn k 4) (inn k 5) rb (inn k 7 : Nat) f g := ⟨_, _, _, ⟨h⟩⟩
theorem blocksOf (w : World) (q k : Nat) (hk : k < 30) (h : IsRow w q k) : Calls Try.prog 15 #[.pointer (some ⟨q, 0, none⟩)] w (NumD (blk k) w) := by
  obtain ⟨b1, _, _, _, _, b6, b7⟩ := inn_bd k hk
  by_cases h29 : k = 29
  · subst h29
    exact getB144 w q _ _ _ _ _ _ _ _ _ h.row29
  · have := getBD w q _ _ _ _ _ _ _ _ _ (h.row h29) (b7 (by omega)) b1 b6
    unfold blk
    rwa [if_neg h29]
def symAgg (k : Nat) : Value := .agg #[.int .i64 (inn k 1 : Nat), .int .i64 (inn k 2 : Nat), .int .i64 (inn k 3 : Nat), .int .i64 (inn k 4 : Nat), .int .i64 (blk k : Nat), .int .i64 (hreg (inn k 5) * inn k 3 + 2 * hreg (inn k 5) : Nat), .int .i64 (vreg (inn k 5) * inn k 4 + 2 * vreg (inn k 5) : Nat),
  .int .i64 (hreg (inn k 5) * inn k 3 : Nat), .int .i64 (vreg (inn k 5) * inn k 4 : Nat)]
def zeroAgg : Value := .agg #[.int .i64 0, .int .i64 0, .int .i64 0, .int .i64 0, .int .i64 0, .int .i64 0, .int .i64 0, .int .i64 0, .int .i64 0]
def nine : List Value := [.int .i64 0, .int .i64 0, .int .i64 0, .int .i64 0, .int .i64 0, .int .i64 0, .int .i64 0, .int .i64 0, .int .i64 0]
def SymOut (words shape : Nat) (w : World) (e : Ending) (w' : World) : Prop :=
  Below w.heap.size w w' ∧ ((∃ k, k < 30 ∧ rowFits words shape k = true ∧ (∀ j, j < k → rowFits words shape j = false) ∧ e = .returned (.tuple #[symAgg k, .bool true])) ∨
    ((∀ j, j < 30 → rowFits words shape j = false) ∧ e = .returned (.tuple #[zeroAgg, .bool false])))
theorem size24 : (Try.prog.info? 24).map (·.size) = some 9 := by kernel_rfl
theorem results5_at {tmps : Array Value} {W : World} {g : Nat} {l : List Value} (hp : tmps.getD 4 undef = .pointer (some ⟨g, 0, none⟩)) (hA : Arr W g 24 l) (hl : l.length = 9) :
    (results Try.f5 tmps).run Try.prog W = .ok (.tuple #[.agg l.toArray, tmps.getD 5 undef]) W := by
  rw [results_cell_tmp Try.results5, hp]
  have h := run_loadVar_row (P := Try.prog) W g 24 24 l.toArray (0, 0) _ hA Try.underlying24 rfl (by rw [size24]; simp [hl])
  simp [asAddr, Sem.run_pure, Result.andThen, h]
set_option maxRecDepth 20000 in
set_option maxHeartbeats 4000000 in
theorem symbolFor (words shape : Nat) (hw : words ≤ 9223372036854775807) (hs : shape ≤ 2) (w : World) :
    Calls Try.prog 5 #[.int .i64 words, .int .i64 shape] w (SymOut words shape w) := by
  have lk := fun W => lookup words shape hw hs W
  have hA0 := Arr.of_new w 24 nine.toArray
  have HA0 := hid hA0
  have HB0 := hid ((Below.refl w.heap.size w).alloc (Nat.le_refl _) (.cells nine.toArray 24))
  clear hA0
  go_enter Try.func5, Try.ntmps5
  go_wp2_with fail
  refine (lk _).mono ?_
  rintro e w1 ⟨hb, hor⟩
  have HB := hid (HB0.out.trans (hb.mono (by simp)))
  have hA1 := HA0.out.below hb HA0.out.lt
  have f0 := hA1.frozen 0
  have f1 := hA1.frozen 1
  have f2 := hA1.frozen 2
  have f3 := hA1.frozen 3
  have f4 := hA1.frozen 4
  have f5 := hA1.frozen 5
  have f6 := hA1.frozen 6
  have f7 := hA1.frozen 7
  have f8 := hA1.frozen 8
  have c0 := hA1.cell? 0
  have c1 := hA1.cell? 1
  have c2 := hA1.cell? 2
  have c3 := hA1.cell? 3
  have c4 := hA1.cell? 4
  have c5 := hA1.cell? 5
  have c6 := hA1.cell? 6
  have c7 := hA1.cell? 7
  have c8 := hA1.cell? 8
  simp only [nine, List.getElem?_cons_zero, List.getElem?_cons_succ] at c0 c1 c2 c3 c4 c5 c6 c7 c8
  have hlt := hA1.lt
  have HA1 := hid hA1
  clear lk hb hA1
  rcases hor with ⟨k, q, hk, hfit, hfirst, rfl, hrow⟩ | ⟨hno, t, v, rfl⟩
  · have HROW := hid hrow
    have HF := hid hfit
    have HF2 := hid hfirst
    obtain ⟨b1, _, b2, b3, b4, b6, b7⟩ := inn_bd k hk
    have hdr := inn_dr k hk
    have g1 := fun W (h : IsRow W q k) => let ⟨_, _, _, r⟩ := h.rowAny; getDC W q _ _ _ _ _ _ _ _ _ _ r
    have g2 := fun W (h : IsRow W q k) => let ⟨_, _, _, r⟩ := h.rowAny; getEC W q _ _ _ _ _ _ _ _ _ _ r
    have g3 := fun W (h : IsRow W q k) => let ⟨_, _, _, r⟩ := h.rowAny; getMW W q _ _ _ _ _ _ _ _ _ _ r
    have g4 := fun W (h : IsRow W q k) => let ⟨_, _, _, r⟩ := h.rowAny; getMH W q _ _ _ _ _ _ _ _ _ _ r
    have g5 := fun W (h : IsRow W q k) => blocksOf W q k hk h
    have g6 := fun W (h : IsRow W q k) => let ⟨_, _, _, r⟩ := h.rowAny; getSW W q _ _ _ _ _ _ _ _ _ _ r hdr b3
    have g7 := fun W (h : IsRow W q k) => let ⟨_, _, _, r⟩ := h.rowAny; getSH W q _ _ _ _ _ _ _ _ _ _ r hdr b4
    have g8 := fun W (h : IsRow W q k) => let ⟨_, _, _, r⟩ := h.rowAny; getDW W q _ _ _ _ _ _ _ _ _ _ r hdr b3
    have g9 := fun W (h : IsRow W q k) => let ⟨_, _, _, r⟩ := h.rowAny; getDH W q _ _ _ _ _ _ _ _ _ _ r hdr b4
    have hS : Hid (symAgg k = .agg #[.int .i64 (inn k 1 : Nat), .int .i64 (inn k 2 : Nat), .int .i64 (inn k 3 : Nat), .int .i64 (inn k 4 : Nat), .int .i64 (blk k : Nat), .int .i64 (hreg (inn k 5) * inn k 3 + 2 * hreg (inn k 5) : Nat), .int .i64 (vreg (inn k 5) * inn k 4 + 2 * vreg (inn k 5) : Nat),
      .int .i64 (hreg (inn k 5) * inn k 3 : Nat), .int .i64 (vreg (inn k 5) * inn k 4 : Nat)]) := hid rfl
    generalize hreg (inn k 5) * inn k 3 + 2 * hreg (inn k 5) = n6 at *
    generalize vreg (inn k 5) * inn k 4 + 2 * vreg (inn k 5) = n7 at *
    generalize hreg (inn k 5) * inn k 3 = n8 at *
    generalize vreg (inn k 5) * inn k 4 = n9 at *
    generalize inn k 1 = n1 at *
    generalize inn k 2 = n2 at *
    generalize inn k 3 = n3 at *
    generalize inn k 4 = n4 at *
    generalize blk k = n5 at *
    clear hrow hfit hfirst hdr b1 b2 b3 b4 b6 b7
    go_wp2_with fail
    refine (g1 _ (by exact HROW.out)).mono ?_
    rintro e w2 ⟨rfl, rfl⟩
    clear g1
    go_wp2_with fail
    refine (g2 _ (by exact HROW.out)).mono ?_
    rintro e w2 ⟨rfl, rfl⟩
    clear g2
    go_wp2_with fail
    refine (g3 _ (by exact HROW.out)).mono ?_
    rintro e w2 ⟨rfl, rfl⟩
    clear g3
    go_wp2_with fail
    refine (g4 _ (by exact HROW.out)).mono ?_
    rintro e w2 ⟨rfl, rfl⟩
    clear g4
    go_wp2_with fail
    refine (g5 _ (by exact HROW.out)).mono ?_
    rintro e w2 ⟨rfl, n5', rfl⟩
    clear g5
    go_wp2_with fail
    refine (g6 _ (by exact HROW.out)).mono ?_
    rintro e w2 ⟨rfl, n6', rfl⟩
    clear g6
    go_wp2_with fail
    refine (g7 _ (by exact HROW.out)).mono ?_
    rintro e w2 ⟨rfl, n7', rfl⟩
    clear g7
    go_wp2_with fail
    refine (g8 _ (by exact HROW.out)).mono ?_
    rintro e w2 ⟨rfl, n8', rfl⟩
    clear g8
    go_wp2_with fail
    refine (g9 _ (by exact HROW.out)).mono ?_
    rintro e w2 ⟨rfl, n9', rfl⟩
    clear g9
    go_wp2_with fail
    have hAf := (((((((((HA1.out.drewN (n5' + n6' + n7' + n8' + n9')).set 0 (.int .i64 n1)).set 1 (.int .i64 n2)).set 2 (.int .i64 n3)).set 3 (.int .i64 n4)).set 4 (.int .i64 n5)).set 5 (.int .i64 n6)).set 6 (.int .i64 n7)).set 7 (.int .i64 n8)).set 8 (.int .i64 n9)
    refine bodyPost_ret (results5_at rfl hAf (by simp [nine])) rfl ⟨?_, .inl ⟨k, hk, HF.out, HF2.out, by rw [hS.out]; rfl⟩⟩
    exact (((((((((below_drewN HB.out _).setCell (by simp) _).setCell (by simp) _).setCell (by simp) _).setCell (by simp) _).setCell (by simp) _).setCell (by simp) _).setCell (by simp) _).setCell (by simp) _).setCell (by simp) _
  · have HNO := hid hno
    clear hno
    go_wp2_with fail
    have hAf := (((((((((HA1.out.set 0 (.int .i64 0)).set 1 (.int .i64 0)).set 2 (.int .i64 0)).set 3 (.int .i64 0)).set 4 (.int .i64 0)).set 5 (.int .i64 0)).set 6 (.int .i64 0)).set 7 (.int .i64 0)).set 8 (.int .i64 0))
    refine bodyPost_ret (results5_at rfl hAf (by simp [nine])) rfl ⟨?_, .inr ⟨HNO.out, rfl⟩⟩
    exact (((((((((HB.out.setCell (by simp) _).setCell (by simp) _).setCell (by simp) _).setCell (by simp) _).setCell (by simp) _).setCell (by simp) _).setCell (by simp) _).setCell (by simp) _).setCell (by simp) _)
end Go.Proofs.Ytfmjkflihnfneaa
