/- QR codes: spec.QRGiven and QRPatterns: rows of bools. Printed by gen_rows8.py. -/
import Derived.Test.YtpffffhgmhpkiaaQaE
import Derived.Deep.DrawnRows
import Derived.StillTailTactics
namespace Go.Proofs.Ytpffffhgmhpkiaa
open Go.RowKit
set_option linter.unusedVariables false
set_option linter.unusedSimpArgs false
attribute [local go_sem ↓] Go.wp_at_zero Go.wp_at_succ

theorem infoRow : (Try.prog.info? 41).map (fun i => (i.zero, i.size, i.bytes)) = some (some (.slice none 0 0), 1, 24) := by kernel_rfl
theorem infoBool : (Try.prog.info? 4).map (fun i => (i.zero, i.size, i.bytes)) = some (some (.bool false), 1, 1) := by kernel_rfl
/-- A row of bools, of each of which something is known. -/
def RowQ (n : Nat) (Q : Nat → Nat → Bool → Prop) (r : Nat) (x : List Value) : Prop := ∃ l : List Bool, l.length = n ∧ x = l.map Value.bool ∧ ∀ c, c < n → Q r c (l.getD c false)
def RowsQ (n : Nat) (Q : Nat → Nat → Bool → Prop) (w : World) (e : Ending) (w' : World) : Prop :=
  ∃ G gs X, e = .returned (.slice (some ⟨G, 0, none⟩) n n) ∧ w.heap.size ≤ G ∧ RowsUp w' G 41 4 n n gs X ∧ (∀ r, r < n → RowQ n Q r (X r)) ∧ Below w.heap.size w w'
theorem drewN_drew (w : World) (d : Nat) : w.drewN (d + 1) = w.drew.drewN d := congrArg (fun n => { w with drawn := n }) (show w.drawn + (d + 1) = w.drawn + 1 + d by omega)
theorem still_val {P : Program} {ops : Array Oper} {w : World} {Q : Act → Prop} {o : Oper} {rest : List Oper} {a : Act} {v : Value} (hw : Region.wanted o (yielded ops a.tmps) = true)
    (he : (execOp a.eval o).run P w = .ok (.value v) w) (h : wpStill P ops w Q rest (a.put o.dst v)) : wpStill P ops w Q (o :: rest) a := by
  unfold wpStill
  rw [if_pos hw]
  unfold Oper.still
  rw [he]
  exact ⟨rfl, h⟩
theorem still_skip {P : Program} {ops : Array Oper} {w : World} {Q : Act → Prop} {o : Oper} {rest : List Oper} {a : Act} (hw : Region.wanted o (yielded ops a.tmps) = false)
    (h : wpStill P ops w Q rest (a.put o.dst undef)) : wpStill P ops w Q (o :: rest) a := by
  unfold wpStill
  rw [if_neg (by rw [hw]; decide)]
  exact h
/-- One more module of a row. -/
theorem step_row (n c k g : Nat) (Q : Nat → Nat → Bool → Prop) (l : List Bool) (b : Bool) (wr w' w3 : World) (hc : c < n) (hl : l.length = c) (hq : ∀ j, j < c → Q k j (l.getD j false))
    (hA : Arr wr g 4 ((l ++ List.replicate (n - c) false).map Value.bool)) (hB : Below g w3 wr) (hb : Q k c b) (hd : ∃ d, wr.drewN d = w') :
    ∃ (c' : Nat) (l' : List Bool), c' ≤ n ∧ c' = c + 1 ∧ l'.length = c' ∧ (∀ j, j < c' → Q k j (l'.getD j false)) ∧ Arr (w'.setCell ⟨g, c, none⟩ (.bool b)) g 4 ((l' ++ List.replicate (n - c') false).map Value.bool) ∧ Below g w3 (w'.setCell ⟨g, c, none⟩ (.bool b)) := by
  obtain ⟨d, rfl⟩ := hd
  refine ⟨c + 1, l ++ [b], by omega, rfl, by simp [hl], fun j hj => ?_, ?_, (below_drewN hB d).setCell (Nat.le_refl _) _⟩
  · rcases Nat.lt_or_ge j c with h | h
    · rw [List.getD, List.getElem?_append_left (by omega)]; exact hq j h
    · obtain rfl : j = c := by omega
      rw [List.getD, List.getElem?_append_right (by omega), hl, Nat.sub_self]; exact hb
  · have h := (hA.drewN d).set c (.bool b)
    rw [List.map_append, List.set_append_right _ _ (by rw [List.length_map]; omega), List.length_map, hl, Nat.sub_self, show n - c = (n - (c + 1)) + 1 by omega, List.replicate_succ, List.map_cons, List.set_cons_zero] at h
    rw [List.map_append, List.map_append, List.append_assoc]
    exact h

set_option maxRecDepth 20000 in
set_option maxHeartbeats 8000000 in
theorem rowsGivenQ (v : Nat) (h1 : 1 ≤ v) (h2 : v ≤ 40) (w : World) : Calls Try.prog 63 #[.int .i64 v] w (RowsQ (17 + 4 * v) (fun r c b => b = gvB v r c) w) := by
  obtain ⟨i1, hi1, hy0, hy1, hy2⟩ := info_of infoRow
  obtain ⟨i4, hi4, hb0, hb1, hb2⟩ := info_of infoBool
  have cq := fun W => centersQ v h1 h2 W
  have dq := fun W => dimQ v h2 W
  have CQ := hid (fun r c m cp A W hm hR hr hc => givenQ v r c m cp A W h1 h2 hm hR hr hc)
  obtain ⟨n, hn⟩ : ∃ n, n = 17 + 4 * v := ⟨_, rfl⟩
  rw [← hn] at dq CQ ⊢
  have hn177 : n ≤ 177 := by omega
  have hn21 : 21 ≤ n := by omega
  have hmk := fun W => run_make (P := Try.prog) W 39 41 i1 (.slice none 0 0) Try.underlying39 hi1 hy0 .i64 .i64 (n : Int) (n : Int) (by omega) (by omega) (by rw [hy2]; omega) (by omega)
  simp only [hy1] at hmk
  have hmk2 := fun W => run_make (P := Try.prog) W 41 4 i4 (.bool false) Try.underlying41 hi4 hb0 .i64 .i64 (n : Int) (n : Int) (by omega) (by omega) (by rw [hb2]; omega) (by omega)
  simp only [hb1] at hmk2
  obtain ⟨Q, hQ⟩ : ∃ Q : Nat → Nat → Bool → Prop, Q = (fun r c b => b = gvB v r c) := ⟨_, rfl⟩
  have HQ := hid (fun r c b => congrFun (congrFun (congrFun hQ r) c) b)
  rw [← hQ]
  clear hn hQ
  go_enter Try.func63, Try.ntmps63
  go_wp2_with fail
  refine (dq _).mono ?_
  rintro e w1 ⟨rfl, rfl⟩
  go_wp2_with fail
  refine (cq _).mono ?_
  rintro e w1 ⟨A, m, cp, rfl, hm, hR, hb⟩
  have HM := hid hm
  have HR := hid hR
  have HB0 := hid (show Below w.heap.size w w1 from hb)
  clear hm hR hb dq cq
  go_wp2_with fail
  have HA := hid (Arr.made w1 41 (.slice none 0 0) n)
  have HB := hid (show Below w1.heap.size w1 (w1.alloc (.cells (madeCells #[.slice none 0 0] n) 41)) from (Below.refl _ _).alloc (Nat.le_refl _) _)
  generalize w1.alloc (.cells (madeCells #[.slice none 0 0] n) 41) = w2 at *
  clear hmk
  go_loopw [16] (fun iv wr => ∃ (k : Nat) (gs : Nat → Nat) (X : Nat → List Value), k ≤ n ∧ iv = .int .i64 (k : Nat) ∧ RowsUp wr w1.heap.size 41 4 n k gs X ∧ (∀ r, r < k → RowQ n Q r (X r)) ∧ Below w1.heap.size w1 wr) (fun iv _ => n - (intOf iv).toNat)
  case atStart => exact ⟨0, fun _ => 0, fun _ => [], by omega, rfl, RowsUp.zero HA.out, fun r hr => by omega, HB.out⟩
  case round =>
    clear HA HB
    obtain ⟨k, gs, X, hk, rfl, hU, hX, hB⟩ := hrel
    have HU := hid hU
    have HX := hid hX
    have HB := hid hB
    clear hU hX hB
    by_cases hlt : k < n
    · have hlt' : (k : Int) < (n : Int) := by omega
      have htop := HU.out.top.alloc (.cells (madeCells #[.bool false] n) 4)
      obtain ⟨v0, hv0⟩ := htop.has k (by simp; omega)
      have fz := htop.frozen k
      have hGl := HU.out.top.lt
      have htc0 := ((HU.out.top.set k (.slice (some ⟨wr.heap.size, 0, none⟩) n n)).alloc (.cells (madeCells #[.bool false] n) 4)).cell k (by simp; omega)
      simp only [List.getElem_set_self] at htc0
      clear htop
      go_wp2_with fail
      have HG1 := hid (show Arr ((wr.setCell ⟨w1.heap.size, k, none⟩ (.slice (some ⟨wr.heap.size, 0, none⟩) n n)).alloc (.cells (madeCells #[.bool false] n) 4)) wr.heap.size 4 (List.replicate n (.bool false)) from by
        have := Arr.made (wr.setCell ⟨w1.heap.size, k, none⟩ (.slice (some ⟨wr.heap.size, 0, none⟩) n n)) 4 (.bool false) n
        rwa [World.size_setCell] at this)
      have HT1 := hid ((HU.out.top.set k (.slice (some ⟨wr.heap.size, 0, none⟩) n n)).alloc (.cells (madeCells #[.bool false] n) 4))
      have HBB := hid (show Below w1.heap.size w1 ((wr.setCell ⟨w1.heap.size, k, none⟩ (.slice (some ⟨wr.heap.size, 0, none⟩) n n)).alloc (.cells (madeCells #[.bool false] n) 4)) from (HB.out.setCell (Nat.le_refl _) _).alloc (by rw [World.size_setCell]; exact HB.out.size) _)
      have HN := hid (fun W x hx hb hA => HU.out.next (cs := madeCells #[.bool false] n) (m := n) (x := x) (w' := W) hlt hx hb hA)
      have hs2 : wr.heap.size < ((wr.setCell ⟨w1.heap.size, k, none⟩ (.slice (some ⟨wr.heap.size, 0, none⟩) n n)).alloc (.cells (madeCells #[.bool false] n) 4)).heap.size := by simp
      generalize hw2 : (wr.setCell ⟨w1.heap.size, k, none⟩ (.slice (some ⟨wr.heap.size, 0, none⟩) n n)).alloc (.cells (madeCells #[.bool false] n) 4) = w3 at *
      generalize hgg : wr.heap.size = g at *
      have hs1 := HBB.out.size
      have HRW := hid (HR.out.below HBB.out)
      clear hv0 fz hw2 htc0
      go_loopw [29] (fun cv wr => ∃ (c : Nat) (l : List Bool), c ≤ n ∧ cv = .int .i64 (c : Nat) ∧ l.length = c ∧ (∀ j, j < c → Q k j (l.getD j false)) ∧ Arr wr g 4 ((l ++ List.replicate (n - c) false).map Value.bool) ∧ Below g w3 wr) (fun cv _ => n - (intOf cv).toNat)
      case atStart => exact ⟨0, [], by omega, rfl, rfl, fun j hj => by omega, by simpa using HG1.out, Below.refl _ _⟩
      case round =>
        obtain ⟨c, l, hcn, rfl, hl, hq, hA, hB2⟩ := hrel
        have HA := hid hA
        have HB2 := hid hB2
        have HL := hid hl
        have HLQ := hid hq
        have hBw := hid (HBB.out.trans (hB2.mono (by omega)))
        have htc := (HT1.out.below hB2 (by omega)).cell k (by simp; omega)
        simp only [List.getElem_set_self] at htc
        have hRw := hid (HR.out.below hBw.out)
        clear hA hB2 hl hq
        by_cases h1c : c < n
        · have h1' : (c : Int) < (n : Int) := by omega
          obtain ⟨v1, hv1⟩ := HA.out.has c (by rw [List.length_map, List.length_append, List.length_replicate, HL.out]; omega)
          have fz := HA.out.frozen c
          have hsz : g < wr.heap.size := HA.out.lt
          have HST := hid (fun (b : Bool) (w' : World) (hq : Q k c b) (hd : ∃ d, wr.drewN d = w') => step_row n c k g Q l b wr w' w3 h1c HL.out HLQ.out HA.out HB2.out hq hd)
          have gq := fun W hR => CQ.out k c m cp A W HM.out hR (by omega) (by omega)
          have HQc := hid (show Q k c (gvB v k c) from (HQ.out k c (gvB v k c)).mpr rfl)
          unfold GvOut at gq
          generalize gvB v k c = bb at *
          go_wp2_with fail
          go_region_with ((first
            | (go_at_call 61; ((with_reducible refine (gq _ hRw.out).mono ?_); rintro e w5 ⟨rfl, rfl⟩))
            | (go_at_call 61; ((with_reducible refine (gq _ hRw.out.drew).mono ?_); rintro e w5 ⟨rfl, rfl⟩))))
          all_goals (
            go_wp2_with fail
            go_roundw
            case rel =>
              first
              | (obtain ⟨c', l', a1, a2, a3, a4, a5, a6⟩ := HST.out _ _ HQc.out ⟨0, rfl⟩; subst a2; (first | exact ⟨c + 1, l', by omega, by go_num, a3, a4, a5, a6⟩ | ((repeat apply Exists.intro); exact ⟨⟨c + 1, l', by omega, rfl, a3, a4, a5, a6⟩, rfl⟩)))
              | (obtain ⟨c', l', a1, a2, a3, a4, a5, a6⟩ := HST.out _ _ HQc.out ⟨1, rfl⟩; subst a2; (first | exact ⟨c + 1, l', by omega, by go_num, a3, a4, a5, a6⟩ | ((repeat apply Exists.intro); exact ⟨⟨c + 1, l', by omega, rfl, a3, a4, a5, a6⟩, rfl⟩)))
            case measure => simp [intOf]; omega)
        · have hcn' : c = n := by omega
          have h1' : ¬ (c : Int) < (n : Int) := by omega
          have HE := hid (HN.out wr ((l ++ List.replicate (n - c) false).map Value.bool) (by rw [List.length_map, List.length_append, List.length_replicate, HL.out]; omega) (by exact HB2.out) HA.out)
          have HQ2 := hid (show ∀ r, r < k + 1 → RowQ n Q r (put X k ((l ++ List.replicate (n - c) false).map Value.bool) r) from fun r hr => by
            unfold put
            by_cases hrk : r = k
            · rw [if_pos hrk, hrk]
              refine ⟨l ++ List.replicate (n - c) false, by rw [List.length_append, List.length_replicate, HL.out]; omega, rfl, fun j hj => ?_⟩
              have := HLQ.out j (by omega)
              rw [List.getD, List.getElem?_append_left (by rw [HL.out]; omega)]
              exact this
            · rw [if_neg hrk]; exact HX.out r (by omega))
          clear htc HN hcn'
          go_wp2_with fail
          go_roundw
          case rel => first | exact ⟨k + 1, _, _, by omega, by go_num, HE.out, HQ2.out, hBw.out⟩ | ((repeat apply Exists.intro); exact ⟨⟨k + 1, _, _, by omega, rfl, HE.out, HQ2.out, hBw.out⟩, rfl⟩)
          case measure => simp [intOf]; omega
    · obtain rfl : k = n := by omega
      have hlt' : ¬ (k : Int) < (k : Int) := by omega
      go_wp2_with fail
      go_ret
      exact ⟨w1.heap.size, gs, X, rfl, HB0.out.size, HU.out, HX.out, HB0.out.trans (HB.out.mono HB0.out.size)⟩
end Go.Proofs.Ytpffffhgmhpkiaa
