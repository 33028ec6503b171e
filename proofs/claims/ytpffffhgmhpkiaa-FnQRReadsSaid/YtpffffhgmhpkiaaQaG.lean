import Derived.Test.YtpffffhgmhpkiaaQaF
import Derived.StillTailTactics
namespace Go.Proofs.Ytpffffhgmhpkiaa
open Go.RowKit
set_option linter.unusedVariables false
set_option linter.unusedSimpArgs false
attribute [local go_sem ↓] Go.wp_at_zero Go.wp_at_succ

set_option maxRecDepth 20000 in
set_option maxHeartbeats 8000000 in
theorem rowsPatQ (v lv mk F : Nat) (h1 : 1 ≤ v) (h2 : v ≤ 40) (hl : lv < 4) (hk : mk < 8) (hF : F = fb (8 * lv + mk)) (hF15 : F < 32768) (w : World) : Calls Try.prog 34 #[.int .i64 v, .int .i64 lv, .int .i64 mk] w (RowsQ (17 + 4 * v) (fun r c b => gvB v r c = true → PatOk v F (vtab.getD (v - 7) 0) r c b) w) := by
  obtain ⟨i1, hi1, hy0, hy1, hy2⟩ := info_of infoRow
  obtain ⟨i4, hi4, hb0, hb1, hb2⟩ := info_of infoBool
  have cq := fun W => centersQ v h1 h2 W
  have dq := fun W => dimQ v h2 W
  have CQ := hid (fun r c m cp A W hm hR hr hc => givenQ v r c m cp A W h1 h2 hm hR hr hc)
  have PQ := hid (fun r c m cp A W hm hR hr hc hg => patternQ v F r c m cp A W h1 h2 hF15 hm hR hr hc hg)
  have fq := fun W => fmtQ lv mk hl hk W
  rw [← hF] at fq
  clear hF
  obtain ⟨n, hn⟩ : ∃ n, n = 17 + 4 * v := ⟨_, rfl⟩
  rw [← hn] at dq CQ PQ ⊢
  have hn177 : n ≤ 177 := by omega
  have hn21 : 21 ≤ n := by omega
  have hmk := fun W => run_make (P := Try.prog) W 39 41 i1 (.slice none 0 0) Try.underlying39 hi1 hy0 .i64 .i64 (n : Int) (n : Int) (by omega) (by omega) (by rw [hy2]; omega) (by omega)
  simp only [hy1] at hmk
  have hmk2 := fun W => run_make (P := Try.prog) W 41 4 i4 (.bool false) Try.underlying41 hi4 hb0 .i64 .i64 (n : Int) (n : Int) (by omega) (by omega) (by rw [hb2]; omega) (by omega)
  simp only [hb1] at hmk2
  obtain ⟨Q, hQ⟩ : ∃ Q : Nat → Nat → Bool → Prop, Q = (fun r c b => gvB v r c = true → PatOk v F (vtab.getD (v - 7) 0) r c b) := ⟨_, rfl⟩
  have HQ := hid (fun r c b => congrFun (congrFun (congrFun hQ r) c) b)
  rw [← hQ]
  clear hn hQ
  go_enter Try.func34, Try.ntmps34
  go_wp2_with fail
  refine (dq _).mono ?_
  rintro e w1 ⟨rfl, rfl⟩
  go_wp2_with fail
  refine (fq _).mono ?_
  rintro e w1 ⟨rfl, d0, rfl⟩
  go_wp2_with fail
  refine (cq _).mono ?_
  rintro e w1 ⟨A, m, cp, rfl, hm, hR, hb⟩
  have HM := hid hm
  have HR := hid hR
  have HB0 := hid (show Below w.heap.size w w1 from (below_drewN (Below.refl _ _) d0).trans hb)
  clear hm hR hb dq cq
  go_wp2_with fail
  have HA := hid (Arr.made w1 41 (.slice none 0 0) n)
  have HB := hid (show Below w1.heap.size w1 (w1.alloc (.cells (madeCells #[.slice none 0 0] n) 41)) from (Below.refl _ _).alloc (Nat.le_refl _) _)
  generalize w1.alloc (.cells (madeCells #[.slice none 0 0] n) 41) = w2 at *
  clear hmk
  go_loopw [24] (fun iv wr => ∃ (k : Nat) (gs : Nat → Nat) (X : Nat → List Value), k ≤ n ∧ iv = .int .i64 (k : Nat) ∧ RowsUp wr w1.heap.size 41 4 n k gs X ∧ (∀ r, r < k → RowQ n Q r (X r)) ∧ Below w1.heap.size w1 wr) (fun iv _ => n - (intOf iv).toNat)
  case atStart => exact ⟨0, fun _ => 0, fun _ => [], by omega, rfl, RowsUp.zero HA.out, fun r hr => by omega, HB.out⟩
  case round =>
    clear HA HB
    obtain ⟨k, gs, X, hk, rfl, hU, hX, hB⟩ := hrel
    have HU := hid hU
    have HX := hid hX
    have HB := hid hB
    clear hU hX hB
    by_cases hlt : k < n
    · have hlt' : (k : Int) < (n : Int) := by omega
      have htop := HU.out.top.alloc (.cells (madeCells #[.bool false] n) 4)
      obtain ⟨v0, hv0⟩ := htop.has k (by simp; omega)
      have fz := htop.frozen k
      have hGl := HU.out.top.lt
      have htc0 := ((HU.out.top.set k (.slice (some ⟨wr.heap.size, 0, none⟩) n n)).alloc (.cells (madeCells #[.bool false] n) 4)).cell k (by simp; omega)
      simp only [List.getElem_set_self] at htc0
      clear htop
      go_wp2_with fail
      have HG1 := hid (show Arr ((wr.setCell ⟨w1.heap.size, k, none⟩ (.slice (some ⟨wr.heap.size, 0, none⟩) n n)).alloc (.cells (madeCells #[.bool false] n) 4)) wr.heap.size 4 (List.replicate n (.bool false)) from by
        have := Arr.made (wr.setCell ⟨w1.heap.size, k, none⟩ (.slice (some ⟨wr.heap.size, 0, none⟩) n n)) 4 (.bool false) n
        rwa [World.size_setCell] at this)
      have HT1 := hid ((HU.out.top.set k (.slice (some ⟨wr.heap.size, 0, none⟩) n n)).alloc (.cells (madeCells #[.bool false] n) 4))
      have HBB := hid (show Below w1.heap.size w1 ((wr.setCell ⟨w1.heap.size, k, none⟩ (.slice (some ⟨wr.heap.size, 0, none⟩) n n)).alloc (.cells (madeCells #[.bool false] n) 4)) from (HB.out.setCell (Nat.le_refl _) _).alloc (by rw [World.size_setCell]; exact HB.out.size) _)
      have HN := hid (fun W x hx hb hA => HU.out.next (cs := madeCells #[.bool false] n) (m := n) (x := x) (w' := W) hlt hx hb hA)
      have hs2 : wr.heap.size < ((wr.setCell ⟨w1.heap.size, k, none⟩ (.slice (some ⟨wr.heap.size, 0, none⟩) n n)).alloc (.cells (madeCells #[.bool false] n) 4)).heap.size := by simp
      generalize hw2 : (wr.setCell ⟨w1.heap.size, k, none⟩ (.slice (some ⟨wr.heap.size, 0, none⟩) n n)).alloc (.cells (madeCells #[.bool false] n) 4) = w3 at *
      generalize hgg : wr.heap.size = g at *
      have hs1 := HBB.out.size
      have HRW := hid (HR.out.below HBB.out)
      clear hv0 fz hw2 htc0
      go_loopw [37] (fun cv wr => ∃ (c : Nat) (l : List Bool), c ≤ n ∧ cv = .int .i64 (c : Nat) ∧ l.length = c ∧ (∀ j, j < c → Q k j (l.getD j false)) ∧ Arr wr g 4 ((l ++ List.replicate (n - c) false).map Value.bool) ∧ Below g w3 wr) (fun cv _ => n - (intOf cv).toNat)
      case atStart => exact ⟨0, [], by omega, rfl, rfl, fun j hj => by omega, by simpa using HG1.out, Below.refl _ _⟩
      case round =>
        obtain ⟨c, l, hcn, rfl, hl, hq, hA, hB2⟩ := hrel
        have HA := hid hA
        have HB2 := hid hB2
        have HL := hid hl
        have HLQ := hid hq
        have hBw := hid (HBB.out.trans (hB2.mono (by omega)))
        have htc := (HT1.out.below hB2 (by omega)).cell k (by simp; omega)
        simp only [List.getElem_set_self] at htc
        have hRw := hid (HR.out.below hBw.out)
        clear hA hB2 hl hq
        by_cases h1c : c < n
        · have h1' : (c : Int) < (n : Int) := by omega
          obtain ⟨v1, hv1⟩ := HA.out.has c (by rw [List.length_map, List.length_append, List.length_replicate, HL.out]; omega)
          have fz := HA.out.frozen c
          have hsz : g < wr.heap.size := HA.out.lt
          have HST := hid (fun (b : Bool) (w' : World) (hq : Q k c b) (hd : ∃ d, wr.drewN d = w') => step_row n c k g Q l b wr w' w3 h1c HL.out HLQ.out HA.out HB2.out hq hd)
          have gq := fun W hR => CQ.out k c m cp A W HM.out hR (by omega) (by omega)
          have pq := fun W hR hg => PQ.out k c m cp A W HM.out hR (by omega) (by omega) hg
          unfold GvOut at gq
          cases hgb : gvB v k c with
          | true =>
            rw [hgb] at gq
            have HP := hid (fun (b : Bool) (h : PatOk v F (vtab.getD (v - 7) 0) k c b) => (HQ.out k c b).mpr (fun _ => h))
            have HGT := hid hgb
            clear hgb
            generalize vtab.getD (v - 7) 0 = V at *
            clear HN HLQ HX HU HT1 HG1
            go_wp2_with fail
            go_region_with ((first
              | (go_at_call 61; ((with_reducible refine (gq _ hRw.out).mono ?_); rintro e w5 ⟨rfl, rfl⟩))
              | (go_at_call 61; ((with_reducible refine (gq _ hRw.out.drew).mono ?_); rintro e w5 ⟨rfl, rfl⟩))
              | (go_at_call 62; ((with_reducible refine (pq _ hRw.out HGT.out).mono ?_); rintro e w5 ⟨bb, rfl, hpb, d, rfl⟩))
              | (go_at_call 62; ((with_reducible refine (pq _ hRw.out.drew HGT.out).mono ?_); rintro e w5 ⟨bb, rfl, hpb, d, rfl⟩))))
            all_goals (
              have HPB := hid (HP.out _ hpb)
              clear hpb
              go_wp2_with fail
              go_roundw
              case rel =>
                first
                | (obtain ⟨c', l', a1, a2, a3, a4, a5, a6⟩ := HST.out _ _ HPB.out ⟨d, rfl⟩; subst a2; (first | exact ⟨c + 1, l', by omega, by go_num, a3, a4, a5, a6⟩ | ((repeat apply Exists.intro); exact ⟨⟨c + 1, l', by omega, rfl, a3, a4, a5, a6⟩, rfl⟩)))
                | (obtain ⟨c', l', a1, a2, a3, a4, a5, a6⟩ := HST.out _ _ HPB.out ⟨1, rfl⟩; subst a2; (first | exact ⟨c + 1, l', by omega, by go_num, a3, a4, a5, a6⟩ | ((repeat apply Exists.intro); exact ⟨⟨c + 1, l', by omega, rfl, a3, a4, a5, a6⟩, rfl⟩)))
                | (obtain ⟨c', l', a1, a2, a3, a4, a5, a6⟩ := HST.out _ _ HPB.out ⟨1 + d, rfl⟩; subst a2; (first | exact ⟨c + 1, l', by omega, by go_num, a3, a4, a5, a6⟩ | ((repeat apply Exists.intro); exact ⟨⟨c + 1, l', by omega, rfl, a3, a4, a5, a6⟩, rfl⟩)))
              case measure => simp [intOf]; omega)
          | false =>
            rw [hgb] at gq
            have HPB := hid (show Q k c false from (HQ.out k c false).mpr (fun h => by rw [hgb] at h; cases h))
            clear hgb pq
            go_wp2_with fail
            have htcD := htc; have hv1D := hv1; have fzD := fz; have hRD := hRw.out.drew
            have HSTD := hid (fun b hq => HST.out b wr.drew hq ⟨1, rfl⟩)
            change wr.drew.cell? _ = _ at htcD
            change wr.drew.cell? _ = _ at hv1D
            change wr.drew.frozen? _ = _ at fzD
            refine wp_region_still_tail 19 (by kernel_rfl) (by kernel_rfl) ?_
            change wpStill _ _ wr.drew (fun a' => wpList _ _ _ _ a' wr.drew) _ _
            generalize wr.drew = w2 at *
            clear htc hv1 fz hRw HST HN HLQ HX HU HT1 HG1
            simp only [List.take_succ_cons, List.take_zero, List.drop_succ_cons, List.drop_zero]
            iterate 9 still_step
            refine wpStill_step (fun K hK => ?_)
            go_simp
            refine ⟨.bool false, ?_, ?_⟩
            · with_reducible refine (gq _ hRD).mono ?_
              rintro e w5 ⟨rfl, rfl⟩
              exact ⟨rfl, rfl⟩
            refine hK _ ?_
            clear hK K gq
            rw [wpStill, if_pos (by rfl), Oper.still]
            go_simp
            iterate 6 rw [wpStill, if_neg (by exact fun h => absurd (show false = true from h) (by decide))]
            rw [wpStill, if_pos (by rfl), Oper.still]
            go_simp
            rw [wpStill, if_pos (by rfl), Oper.still]
            go_simp
            rw [wpStill]
            show wpList _ _ _ _ _ _
            go_wp2_with fail
            go_roundw
            case rel =>
              obtain ⟨c', l', a1, a2, a3, a4, a5, a6⟩ := HSTD.out _ HPB.out
              subst a2
              first
              | exact ⟨c + 1, l', by omega, by go_num, a3, a4, a5, a6⟩
              | ((repeat apply Exists.intro); exact ⟨⟨c + 1, l', by omega, rfl, a3, a4, a5, a6⟩, rfl⟩)
            case measure => simp [intOf]; omega
        · have hcn' : c = n := by omega
          have h1' : ¬ (c : Int) < (n : Int) := by omega
          have HE := hid (HN.out wr ((l ++ List.replicate (n - c) false).map Value.bool) (by rw [List.length_map, List.length_append, List.length_replicate, HL.out]; omega) (by exact HB2.out) HA.out)
          have HQ2 := hid (show ∀ r, r < k + 1 → RowQ n Q r (put X k ((l ++ List.replicate (n - c) false).map Value.bool) r) from fun r hr => by
            unfold put
            by_cases hrk : r = k
            · rw [if_pos hrk, hrk]
              refine ⟨l ++ List.replicate (n - c) false, by rw [List.length_append, List.length_replicate, HL.out]; omega, rfl, fun j hj => ?_⟩
              have := HLQ.out j (by omega)
              rw [List.getD, List.getElem?_append_left (by rw [HL.out]; omega)]
              exact this
            · rw [if_neg hrk]; exact HX.out r (by omega))
          clear htc HN hcn'
          go_wp2_with fail
          go_roundw
          case rel => first | exact ⟨k + 1, _, _, by omega, by go_num, HE.out, HQ2.out, hBw.out⟩ | ((repeat apply Exists.intro); exact ⟨⟨k + 1, _, _, by omega, rfl, HE.out, HQ2.out, hBw.out⟩, rfl⟩)
          case measure => simp [intOf]; omega
    · obtain rfl : k = n := by omega
      have hlt' : ¬ (k : Int) < (k : Int) := by omega
      go_wp2_with fail
      go_ret
      exact ⟨w1.heap.size, gs, X, rfl, HB0.out.size, HU.out, HX.out, HB0.out.trans (HB.out.mono HB0.out.size)⟩
end Go.Proofs.Ytpffffhgmhpkiaa
