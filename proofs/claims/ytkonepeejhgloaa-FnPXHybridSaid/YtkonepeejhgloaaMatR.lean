/- impl.rowsOf: the rows of a matrix of bits. -/
import Derived.Test.YtkonepeejhgloaaMatP
namespace Go.Proofs.Ytkonepeejhgloaa
open Go.RowKit
set_option linter.unusedVariables false

theorem fillSet {α : Type} (d : α) (X : List α) (n k : Nat) (hk : k < X.length) (hkn : k < n) : (X.take k ++ List.replicate (n - k) d).set k (X.getD k d) = X.take (k + 1) ++ List.replicate (n - (k + 1)) d := by
  have hl : (X.take k).length = k := by rw [List.length_take]; omega
  rw [List.set_append_right _ _ (by omega), hl, Nat.sub_self, show n - k = (n - (k + 1)) + 1 from by omega, List.replicate_succ, List.set_cons_zero, List.take_succ_eq_append_getElem hk, List.append_assoc]
  simp [List.getD, List.getElem?_eq_getElem hk]
theorem infoRow : (Try.prog.info? 29).map (fun i => (i.zero, i.size, i.bytes)) = some (some (.slice none 0 0), 1, 24) := by kernel_rfl
theorem infoBool : (Try.prog.info? 4).map (fun i => (i.zero, i.size, i.bytes)) = some (some (.bool false), 1, 1) := by kernel_rfl
/-- Rows in new memory are handed back. -/
def RowsBack (n : Nat) (X : Nat → List Value) (w : World) (e : Ending) (w' : World) : Prop :=
  ∃ G, e = .returned (.slice (some ⟨G, 0, none⟩) n n) ∧ w.heap.size ≤ G ∧ RdRows w' (some ⟨G, 0, none⟩) n X ∧ Below w.heap.size w w'

set_option maxRecDepth 20000 in
set_option maxHeartbeats 4000000 in
theorem rowsOf (q g W H rs : Nat) (ws : List Nat) (B : Nat → Nat → Bool) (w : World) (h : IsMat w q g 93 87 W H rs ws B) (hW : W ≤ 1000) (hH : H ≤ 1000) (hrs : rs ≤ 32) :
    Calls Try.prog 25 #[.pointer (some ⟨q, 0, none⟩)] w (RowsBack H (brow (fun r c => B c r) W) w) := by
  obtain ⟨i1, hi1, hy0, hy1, hy2⟩ := info_of infoRow
  obtain ⟨i4, hi4, hb0, hb1, hb2⟩ := info_of infoBool
  have hmk := fun W => run_make (P := Try.prog) W 38 29 i1 (.slice none 0 0) Try.underlying38 hi1 hy0 .i64 .i64 (H : Int) (H : Int) (by omega) (by omega) (by rw [hy2]; omega) (by omega)
  simp only [hy1] at hmk
  have hmk2 := fun W' => run_make (P := Try.prog) W' 29 4 i4 (.bool false) Try.underlying29 hi4 hb0 .i64 .i64 (W : Int) (W : Int) (by omega) (by omega) (by rw [hb2]; omega) (by omega)
  simp only [hb1] at hmk2
  have gh := getH q g W H rs ws B w h
  have hql := h.lt
  have HW := hid (fun (w' : World) (hw : Below w.heap.size w w') => h.below hw hql)
  have HGW := hid (fun (w' : World) (hw : Below w.heap.size w w') => getW q g W H rs ws B w' (h.below hw hql))
  clear h
  go_enter Try.func25, Try.ntmps25
  go_wp2_with fail
  refine gh.mono ?_
  rintro e w1 ⟨rfl, rfl⟩
  clear gh
  go_wp2_with fail
  have HA := hid (Arr.made w 29 (.slice none 0 0) H)
  have HB := hid (show Below w.heap.size w (w.alloc (.cells (madeCells #[.slice none 0 0] H) 29)) from (Below.refl _ _).alloc (Nat.le_refl _) _)
  generalize w.alloc (.cells (madeCells #[.slice none 0 0] H) 29) = w1 at *
  clear hmk
  go_loopw [11] (fun iv wr => ∃ (k : Nat) (gs : Nat → Nat), k ≤ H ∧ iv = .int .i64 (k : Nat) ∧ RowsUp wr w.heap.size 29 4 H k gs (brow (fun r c => B c r) W) ∧ Below w.heap.size w wr) (fun iv _ => H - (intOf iv).toNat)
  case atStart => exact ⟨0, fun _ => 0, by omega, rfl, RowsUp.zero HA.out, HB.out⟩
  case round =>
    clear HA HB
    obtain ⟨k, gs, hk, rfl, hU, hB⟩ := hrel
    have HU := hid hU
    have HB := hid hB
    clear hU hB
    by_cases hlt : k < H
    · have hlt' : (k : Int) < (H : Int) := by omega
      have htop := HU.out.top.alloc (.cells (madeCells #[.bool false] W) 4)
      obtain ⟨v0, hv0⟩ := htop.has k (by simp; omega)
      have fz := htop.frozen k
      have hGl := HU.out.top.lt
      have HT1 := hid ((HU.out.top.set k (.slice (some ⟨wr.heap.size, 0, none⟩) W W)).alloc (.cells (madeCells #[.bool false] W) 4))
      have htc := HT1.out.cell k (by simp; omega)
      simp only [List.getElem_set_self] at htc
      have gw := HGW.out wr HB.out
      clear htop
      go_wp2_with fail
      refine gw.mono ?_
      rintro e w2 ⟨rfl, rfl⟩
      clear gw
      go_wp2_with fail
      have HG1 := hid (show Arr ((wr.setCell ⟨w.heap.size, k, none⟩ (.slice (some ⟨wr.heap.size, 0, none⟩) W W)).alloc (.cells (madeCells #[.bool false] W) 4)) wr.heap.size 4 (List.replicate W (.bool false)) from by have := Arr.made (wr.setCell ⟨w.heap.size, k, none⟩ (.slice (some ⟨wr.heap.size, 0, none⟩) W W)) 4 (.bool false) W; rwa [World.size_setCell] at this)
      have HBB := hid (show Below w.heap.size w ((wr.setCell ⟨w.heap.size, k, none⟩ (.slice (some ⟨wr.heap.size, 0, none⟩) W W)).alloc (.cells (madeCells #[.bool false] W) 4)) from (HB.out.setCell (by simp) _).alloc (by rw [World.size_setCell]; exact HB.out.size) _)
      have HN := hid (fun W' x hx hb hA => HU.out.next (cs := madeCells #[.bool false] W) (m := W) (x := x) (w' := W') hlt hx hb hA)
      generalize hw2 : (wr.setCell ⟨w.heap.size, k, none⟩ (.slice (some ⟨wr.heap.size, 0, none⟩) W W)).alloc (.cells (madeCells #[.bool false] W) 4) = w2 at *
      generalize hgg : wr.heap.size = g2 at *
      have hs1 := HBB.out.size
      clear hv0 fz hw2 htc
      go_loopw [25] (fun cv wr => ∃ c : Nat, c ≤ W ∧ cv = .int .i64 (c : Nat) ∧ Arr wr g2 4 ((brow (fun r c => B c r) W k).take c ++ List.replicate (W - c) (.bool false)) ∧ Below g2 w2 wr) (fun cv _ => W - (intOf cv).toNat)
      case atStart => exact ⟨0, by omega, rfl, by simpa using HG1.out, Below.refl _ _⟩
      case round =>
        clear HG1
        obtain ⟨c, hcn, rfl, hA, hB2⟩ := hrel
        have HA := hid hA
        have HB2 := hid hB2
        have hBw := hid (HBB.out.trans (hB2.mono (by omega)))
        have htc := (HT1.out.below hB2 (by omega)).cell k (by simp; omega)
        simp only [List.getElem_set_self] at htc
        clear hA hB2
        by_cases h1 : c < W
        · have h1' : (c : Int) < (W : Int) := by omega
          have gb := fun M => getBit q g W H rs c k ws B (wr.drewN M) ((HW.out wr hBw.out).drewN M) h1 hlt hH hrs
          obtain ⟨v1, hv1⟩ := HA.out.has c (by rw [List.length_append, List.length_take, List.length_replicate, brow_len]; omega)
          have fz := HA.out.frozen c
          have HS2 := hid (fillSet (.bool false) (brow (fun r c => B c r) W k) W c (by rw [brow_len]; exact h1) h1)
          have HV := hid (show (brow (fun r c => B c r) W k).getD c (.bool false) = .bool (B c k) from by simp [brow, List.getD, List.getElem?_range h1])
          rw [HV.out] at HS2
          clear HV
          generalize B c k = bz2 at *
          go_wp2_with fail
          go_region_with ((first | (go_at_call 33; ((with_reducible refine (gb _).mono ?_); rintro e w6 ⟨rfl, rfl⟩)) | (go_at_call 33; ((refine (gb 0).mono ?_); rintro e w6 ⟨rfl, rfl⟩)) | (go_at_call 33; ((refine (gb 1).mono ?_); rintro e w6 ⟨rfl, rfl⟩))))
          all_goals (
            go_wp2_with fail
            go_roundw
            case rel =>
              refine ⟨c + 1, by omega, by go_num, ?_, (below_drewN HB2.out _).setCell (by simp) _⟩
              rw [← HS2.out]
              exact (HA.out.drewN _).set c _
            case measure => simp [intOf]; omega)
        · obtain rfl : c = W := by omega
          have h1' : ¬ (c : Int) < (c : Int) := by omega
          have hfull := HA.out
          rw [Nat.sub_self, List.replicate_zero, List.append_nil, List.take_of_length_le (by rw [brow_len]; exact Nat.le_refl _)] at hfull
          have HE := hid (HN.out wr _ (brow_len _ c k) HB2.out hfull)
          have HE2 := hid (show RowsUp wr w.heap.size 29 4 H (k + 1) (put gs k g2) (brow (fun r x => B x r) c) from HE.out.congr (fun r hr => by
            unfold put
            by_cases hrk : r = k
            · rw [if_pos hrk, hrk]
            · rw [if_neg hrk]))
          clear HE HN hfull
          go_wp2_with fail
          go_roundw
          case rel => exact ⟨k + 1, _, by omega, by go_num, HE2.out, hBw.out⟩
          case measure => simp [intOf]; omega
    · obtain rfl : k = H := by omega
      have hlt' : ¬ (k : Int) < (k : Int) := by omega
      go_wp2_with fail
      go_ret
      exact ⟨w.heap.size, rfl, Nat.le_refl _, HU.out.rd, HB.out⟩
end Go.Proofs.Ytkonepeejhgloaa
