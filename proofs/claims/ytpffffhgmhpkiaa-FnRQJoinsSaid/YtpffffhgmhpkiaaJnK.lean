/- QR codes: FnRQJoins: processStructuredAppend. -/
import Derived.Test.YtpffffhgmhpkiaaJnJ
import Derived.BigRegion
namespace Go.Proofs.Ytpffffhgmhpkiaa
open Go.RowKit Go.ChangeMaps Go.MapKept
set_option linter.unusedVariables false
set_option linter.unusedSimpArgs false
set_option maxRecDepth 20000 in
set_option maxHeartbeats 16000000 in
theorem processQ (L : List RV) (A : Option Addr) (N c : Nat) (w : World) (hR : On Al w (fun W => RdL FR 1 W A N L)) (hN : N ≤ 64) (hc : N ≤ c) (ht : (L.flatMap (·.t)).length ≤ 17179869184) (hr : (L.flatMap (·.r)).length ≤ 17179869184) (hg : (L.flatMap segF).length ≤ 17179869184)
    (h8 : ∀ q ∈ L, ∀ x ∈ q.t, x < 256) (hr1 : ∀ q ∈ L, isSA q = true → 1 ≤ q.r.length) (hgl : ∀ q ∈ L, ∀ Lg, q.g = some Lg → Lg.length ≤ 17179869184) : Calls Try.prog 57 #[.slice A N c] w (ProcOut L w) := by
  obtain ⟨i61, gi, gz0, gz1, gz2⟩ := info_of info61
  obtain ⟨i5, hi5, hz0, hz1, hz2⟩ := info_of info5
  have hNL : L.length = N := hR.here.1
  have HNL := hid hNL
  have HR := hid hR
  have HT := hid ht
  have HRL := hid hr
  have HGL := hid hg
  have H8 := hid h8
  have HR1 := hid hr1
  have HGN0 := hid hgl
  clear hR ht hr hg h8 hr1 hgl hNL
  have hmk0 := fun W => run_make (P := Try.prog) W 60 61 i61 (.pointer none) Try.underlying60 gi gz0 .i64 .i64 0 0 (by omega) (by omega) (by rw [gz2]; omega) (by omega)
  simp only [gz1] at hmk0
  go_enter Try.func57, Try.ntmps57
  go_wp2_with fail
  go_loopw [3, 41] (fun hv iv wr => ∃ (i : Nat), i ≤ N ∧ iv = .int .i64 (i : Nat) ∧ hv = .bool false ∧ Hid (∀ j, j < i → isSA (L.getD j rv0) = false) ∧ w = wr) (fun _ iv _ => N - (intOf iv).toNat)
  case atStart => exact ⟨0, by omega, rfl, rfl, hid (fun j hj => absurd hj (by omega)), rfl⟩
  case round =>
    obtain ⟨i, hi, rfl, rfl, HJ, rfl⟩ := hrel
    by_cases hlt : i < N
    case neg =>
      obtain rfl : i = N := by omega
      have hlt' : ¬ (i : Int) < (i : Int) := by omega
      clear hlt
      go_wp2_with fail
      go_ret
      refine ⟨A, i, c, L, rfl, HNL.out.symm, hc, .inl ⟨fun x hx => ?_, rfl⟩, HR.out, Below.refl _ _⟩
      obtain ⟨j, hj, rfl⟩ := List.getElem_of_mem hx
      have := HJ.out j (by rw [← HNL.out]; exact hj)
      rwa [List.getD, List.getElem?_eq_getElem hj] at this
    case pos =>
      have hlt' : (i : Int) < (N : Int) := by omega
      obtain ⟨b, o, p, hA, hb, c0, hp, hOn⟩ := resOn HR.out i hlt
      subst hA
      obtain ⟨R, cR, nb, X, xm, xd, m, gv, hArr, hRd, hMeta, hGV⟩ := hOn.here
      have gm := getMQ hArr
      have lk := look9t hMeta
      rw [isSA_get] at lk
      have HJ2 := hid (fun (h : isSA (L.getD i rv0) = false) j (hj : j < i + 1) => show isSA (L.getD j rv0) = false from by
        by_cases h2 : j < i
        · exact HJ.out j h2
        · obtain rfl : j = i := by omega
          exact h)
      have HSA := hid (fun (h : isSA (L.getD i rv0) = true) => show ∃ x ∈ L, isSA x = true from ⟨L.getD i rv0, by
        have hl : i < L.length := by rw [HNL.out]; exact hlt
        rw [List.getD, List.getElem?_eq_getElem hl]; exact List.getElem_mem hl, h⟩)
      generalize sVal (L.getD i rv0).s = sv at *
      generalize isSA (L.getD i rv0) = sa at *
      clear hArr hRd hMeta hGV hOn
      cases sa with
      | false =>
        have HJ3 := hid (HJ2.out rfl)
        go_wp2_with fail
        refine gm.mono ?_
        rintro e w1 ⟨rfl, rfl⟩
        go_wp2_with fail
        go_roundw
        case rel => exact ⟨i + 1, by omega, by go_num, rfl, HJ3, trivial⟩
        case measure => first | (simp [intOf]; done) | (simp [intOf]; omega)
      | true =>
        have HSB := hid (HSA.out rfl)
        clear HJ2 HSA
        go_wp2_with fail
        refine gm.mono ?_
        rintro e w1 ⟨rfl, rfl⟩
        go_wp2_with fail
        clear gm lk c0 hp hb hlt hlt' HJ hi
        have HO9 := hid (show OwnL FR 1 (Bel w.heap.size) ((w.alloc (.cells (madeCells #[.pointer none] 0) 61)).alloc (.cells (madeCells #[.pointer none] 0) 61)) w.heap.size 61 (.slice (some ⟨w.heap.size, 0, none⟩) 0 0) (((L.take 0).filter fun x => !isSA x)) from
          (OwnL.made (World.ownsRow_made w (madeCells #[.pointer none] 0) 0 (Nat.le_refl _) (by simp [maxLen]) (by simp [madeCells]))).alloc _)
        have HO10 := hid (show OwnL FR 1 (Bel w.heap.size) ((w.alloc (.cells (madeCells #[.pointer none] 0) 61)).alloc (.cells (madeCells #[.pointer none] 0) 61)) w.heap.size 61 (.slice (some ⟨w.heap.size + 1, 0, none⟩) 0 0) ((L.take 0).filter isSA) from by
          have h1 : OwnL FR 1 (Bel w.heap.size) ((w.alloc (.cells (madeCells #[.pointer none] 0) 61)).alloc (.cells (madeCells #[.pointer none] 0) 61)) w.heap.size 61 (.slice (some ⟨(w.alloc (.cells (madeCells #[.pointer none] 0) 61)).heap.size, 0, none⟩) 0 0) [] :=
            OwnL.made (World.ownsRow_made (base := w.heap.size) (w.alloc (.cells (madeCells #[.pointer none] 0) 61)) (madeCells #[.pointer none] 0) 0 (by rw [World.size_alloc]; omega) (by simp [maxLen]) (by simp [madeCells]))
          rw [World.size_alloc] at h1
          exact h1)
        have HB0 := hid (((Below.refl w.heap.size w).alloc (Nat.le_refl _) (.cells (madeCells #[.pointer none] 0) 61)).alloc (by rw [World.size_alloc]; omega) (.cells (madeCells #[.pointer none] 0) 61))
        have HAP0 := hid (show Ap (Value.slice (some ⟨w.heap.size, 0, none⟩) 0 0) (Value.slice (some ⟨w.heap.size + 1, 0, none⟩) 0 0) from fun k h1 h2 => by
          have h3 : some w.heap.size = some k := h1
          have h4 : some (w.heap.size + 1) = some k := h2
          injection h3 with h3; injection h4 with h4; omega)
        generalize (w.alloc (.cells (madeCells #[.pointer none] 0) 61)).alloc (.cells (madeCells #[.pointer none] 0) 61) = wz at *
        clear hmk0
        go_loopw [9, 10, 61] (fun v9 v10 iv wr => ∃ (i : Nat), i ≤ N ∧ iv = .int .i64 (i : Nat) ∧ Hid (OwnL FR 1 (Bel w.heap.size) wr w.heap.size 61 v9 ((L.take i).filter fun x => !isSA x)) ∧ Hid (OwnL FR 1 (Bel w.heap.size) wr w.heap.size 61 v10 ((L.take i).filter isSA)) ∧ Hid (Ap v9 v10) ∧ Hid (Below w.heap.size w wr)) (fun _ _ iv _ => N - (intOf iv).toNat)
        case atStart => exact ⟨0, by omega, rfl, HO9, HO10, HAP0, HB0⟩
        case round =>
          clear HO9 HO10 HAP0 HB0
          obtain ⟨i, hi, rfl, HO9, HO10, HAP, HB⟩ := hrel
          have hbs := HB.out.size
          by_cases hlt : i < N
          · have hlt' : (i : Int) < (N : Int) := by omega
            obtain ⟨b2, o2, p, hA2, hb, c0, hp, hOn⟩ := resOn HR.out i hlt
            injection hA2 with hA2
            injection hA2 with e1 e2
            subst e1; subst e2
            have c1 : wr.cell? ⟨b, o + i, none⟩ = some (.pointer (some ⟨p, 0, none⟩)) := (HB.out.cell (p := ⟨b, o + i, none⟩) hb).trans c0
            have hOw := hOn.below HB.out
            obtain ⟨R, cR, nb, X, xm, xd, m, gv, hArr, hRd, hMeta, hGV⟩ := hOw.here
            have gm := getMQ hArr
            have lk := look9t hMeta
            rw [isSA_get] at lk
            have hiL : i < L.length := by rw [HNL.out]; exact hlt
            have HF := hid (hOw.fr_ (Nat.lt_of_lt_of_le hp HB.out.size))
            have HT1 := hid (filter_take isSA L i rv0 hiL)
            have HT2 := hid (filter_take (fun x => !isSA x) L i rv0 hiL)
            have l1 : ((L.take i).filter isSA).length ≤ 64 := by have := List.length_filter_le isSA (L.take i); rw [List.length_take] at this; omega
            have l2 : ((L.take i).filter fun x => !isSA x).length ≤ 64 := by have := List.length_filter_le (fun x => !isSA x) (L.take i); rw [List.length_take] at this; omega
            have HL1 := hid l1
            have HL2 := hid l2
            generalize sVal (L.getD i rv0).s = sv at *
            generalize hsa : isSA (L.getD i rv0) = sa at *
            generalize L.getD i rv0 = q at *
            clear hArr hRd hMeta hGV hOn hOw c0 hsa l1 l2 hiL
            cases sa with
            | false =>
              go_wp2_with fail
              refine gm.mono ?_
              rintro e w1 ⟨rfl, rfl⟩
              go_wp2_with ((at_builtin; refine wpList_appK (F := FR) (S := Bel w.heap.size) _ rfl _ _ 60 rfl w.heap.size 61 i61 _ 1 8 Try.underlying60 gi gz0 gz1 gz2 rfl (by omega) _ ((L.take i).filter fun x => !isSA x) rfl (HO9.out.alloc _) ⟨wr.heap.size, 0, none⟩ 1 [.pointer (some ⟨p, 0, none⟩)] q rfl rfl (cell_new wr #[.pointer (some ⟨p, 0, none⟩)] 61 _ rfl) (by simp [Value.oneCell']) ((HF.out.alloc _).offBel (fun k hk => (HO9.out.lt k hk).1)) (by have := HL2.out; simp only [maxLen]; omega) (by have := HL2.out; omega) (by rw [World.size_alloc]; omega) ?_))
              intro v5 w5 hO5 hg5 ho5
              have HN5 := hid (show OwnL FR 1 (Bel w.heap.size) w5 w.heap.size 61 v5 ((L.take (i + 1)).filter fun x => !isSA x) from by rw [HT2.out]; exact hO5)
              have HM5 := hid (show OwnL FR 1 (Bel w.heap.size) w5 w.heap.size 61 _ ((L.take (i + 1)).filter isSA) from by
                rw [HT1.out, if_neg (by decide), List.append_nil]
                exact (HO10.out.alloc (.cells #[.pointer (some ⟨p, 0, none⟩)] 61)).grown hg5 HAP.out.ne (fun k hk h2 => by have := (HO9.out.lt k hk).1; unfold Bel at h2; omega))
              have HP5 := hid (HAP.out.app ho5 (fun k hk => by have := (HO10.out.lt k hk).2; omega))
              have HB5 := hid (below_appL (HB.out.alloc hbs (.cells #[.pointer (some ⟨p, 0, none⟩)] 61)) (HO9.out.alloc _) hg5 (Nat.le_refl _) (by rw [World.size_alloc]; omega))
              clear hO5 hg5 ho5
              go_wp2_with fail
              go_roundw
              case rel => first | exact ⟨i + 1, by omega, by go_num, HN5, HM5, HP5, HB5⟩ | ((repeat apply Exists.intro); exact ⟨⟨i + 1, by omega, rfl, HN5, HM5, HP5, HB5⟩, rfl⟩)
              case measure => first | (simp [intOf]; done) | (simp [intOf]; omega)
            | true =>
              go_wp2_with fail
              refine gm.mono ?_
              rintro e w1 ⟨rfl, rfl⟩
              go_wp2_with ((at_builtin; refine wpList_appK (F := FR) (S := Bel w.heap.size) _ rfl _ _ 60 rfl w.heap.size 61 i61 _ 1 8 Try.underlying60 gi gz0 gz1 gz2 rfl (by omega) _ ((L.take i).filter isSA) rfl (HO10.out.alloc _) ⟨wr.heap.size, 0, none⟩ 1 [.pointer (some ⟨p, 0, none⟩)] q rfl rfl (cell_new wr #[.pointer (some ⟨p, 0, none⟩)] 61 _ rfl) (by simp [Value.oneCell']) ((HF.out.alloc _).offBel (fun k hk => (HO10.out.lt k hk).1)) (by have := HL1.out; simp only [maxLen]; omega) (by have := HL1.out; omega) (by rw [World.size_alloc]; omega) ?_))
              intro v5 w5 hO5 hg5 ho5
              have HN5 := hid (show OwnL FR 1 (Bel w.heap.size) w5 w.heap.size 61 v5 ((L.take (i + 1)).filter isSA) from by rw [HT1.out]; exact hO5)
              have HM5 := hid (show OwnL FR 1 (Bel w.heap.size) w5 w.heap.size 61 _ ((L.take (i + 1)).filter fun x => !isSA x) from by
                rw [HT2.out, if_neg (by decide), List.append_nil]
                exact (HO9.out.alloc (.cells #[.pointer (some ⟨p, 0, none⟩)] 61)).grown hg5 HAP.out.symm.ne (fun k hk h2 => by have := (HO10.out.lt k hk).1; unfold Bel at h2; omega))
              have HP5 := hid (HAP.out.symm.app ho5 (fun k hk => by have := (HO9.out.lt k hk).2; omega)).symm
              have HB5 := hid (below_appL (HB.out.alloc hbs (.cells #[.pointer (some ⟨p, 0, none⟩)] 61)) (HO10.out.alloc _) hg5 (Nat.le_refl _) (by rw [World.size_alloc]; omega))
              clear hO5 hg5 ho5
              go_wp2_with fail
              go_roundw
              case rel => first | exact ⟨i + 1, by omega, by go_num, HM5, HN5, HP5, HB5⟩ | ((repeat apply Exists.intro); exact ⟨⟨i + 1, by omega, rfl, HM5, HN5, HP5, HB5⟩, rfl⟩)
              case measure => first | (simp [intOf]; done) | (simp [intOf]; omega)
          · obtain rfl : i = N := by omega
            have hlt' : ¬ (i : Int) < (i : Int) := by omega
            have HN := hid (show OwnL FR 1 (Bel w.heap.size) wr w.heap.size 61 _ (L.filter fun x => !isSA x) from by have := HO9.out; rwa [List.take_of_length_le (by rw [HNL.out]; exact Nat.le_refl _)] at this)
            have HS0 := hid (show OwnL FR 1 (Bel w.heap.size) wr w.heap.size 61 _ (L.filter isSA) from by have := HO10.out; rwa [List.take_of_length_le (by rw [HNL.out]; exact Nat.le_refl _)] at this)
            have hm1 : 1 ≤ (L.filter isSA).length := by obtain ⟨x, hx, hs⟩ := HSB.out; exact List.length_pos_of_mem (List.mem_filter.2 ⟨hx, hs⟩)
            have hm64 : (L.filter isSA).length ≤ 64 := by have := List.length_filter_le isSA L; rw [HNL.out] at this; omega
            obtain ⟨blk, c10, hv10, hb10, hl10⟩ := HS0.out.blk hm1
            obtain ⟨m, hm⟩ : ∃ m, m = (L.filter isSA).length := ⟨_, rfl⟩
            rw [← hm] at hv10 hm1 hm64
            subst hv10
            have cq := fun W => compQ (some ⟨blk, 0, none⟩) m c10 W
            have sq := sortQ (B := w.heap.size) (L.filter isSA) blk wr.heap.size c10 m (wr.alloc (.cells #[.slice (some ⟨blk, 0, none⟩) m c10] 60)) ((HS0.out.alloc _).mono (fun _ _ => trivial)) hm hm1 ((Arr.of_new wr 60 #[.slice (some ⟨blk, 0, none⟩) m c10]).cell? 0) (by omega) (by rw [World.size_alloc]; omega) (by omega)
            have HM := hid hm
            clear hm HO9 HO10 HS0 hlt hi
            go_wp2_with fail
            refine (cq _).mono ?_
            rintro e w3 ⟨rfl, rfl⟩
            go_wp2_with fail
            refine sq.mono ?_
            rintro e w4 ⟨rfl, S, hp, hso, hS, hk⟩
            rw [World.size_alloc] at hk
            have HP := hid hp
            have HSO := hid hso
            have HS := hid hS
            have HN4 := hid ((HN.out.alloc (.cells #[.slice (some ⟨blk, 0, none⟩) m c10] 60)).kp hk (by rw [World.size_alloc]; exact Nat.le_refl _) (fun e => HAP.out _ e rfl) (by unfold Bel; omega))
            have HB4 := hid ((HB.out.alloc hbs (.cells #[.slice (some ⟨blk, 0, none⟩) m c10] 60)).trans (hk.toBelow (by omega) hb10))
            clear cq sq hp hso hS hk HN HB HAP
            have HSL := hid (show S.length = m from HS.out.here.1)
            have hsub : ∀ q ∈ S, q ∈ L ∧ isSA q = true := fun q hq => List.mem_filter.1 (HP.out.subset hq)
            have HS8 := hid (show ∀ q ∈ S, ∀ x ∈ q.t, x < 256 from fun q hq => H8.out q (hsub q hq).1)
            have HSN := hid (show ∀ q ∈ S, ∀ Lg, q.g = some Lg → Lg.length ≤ 17179869184 from fun q hq => HGN0.out q (hsub q hq).1)
            have HSR := hid (show ∀ q ∈ S, 1 ≤ q.r.length from fun q hq => HR1.out q (hsub q hq).1 (hsub q hq).2)
            have HST := hid (show (S.flatMap (·.t)).length ≤ 17179869184 from by rw [flat_len_perm _ HP.out]; exact Nat.le_trans (flat_len_filter _ _ _) HT.out)
            have HSRL := hid (show (S.flatMap (·.r)).length ≤ 17179869184 from by rw [flat_len_perm _ HP.out]; exact Nat.le_trans (flat_len_filter _ _ _) HRL.out)
            have HSG := hid (show (S.flatMap segF).length ≤ 17179869184 from by rw [flat_len_perm _ HP.out]; exact Nat.le_trans (flat_len_filter _ _ _) HGL.out)
            have hmk5 := fun W => run_make (P := Try.prog) W 22 5 i5 (.int .u8 0) Try.underlying22 hi5 hz0 .i64 .i64 0 0 (by omega) (by omega) (by rw [hz2]; omega) (by omega)
            simp only [hz1] at hmk5
            clear hsub hb10 hl10
            go_wp2_with fail
            have HO0 := hid (show Own (w4.alloc (.cells (madeCells #[.int .u8 0] 0) 5)) w4.heap.size 5 (.slice (some ⟨w4.heap.size, 0, none⟩) 0 0) (u8s ((S.take 0).flatMap (·.t))) from World.ownsRow_made w4 (madeCells #[.int .u8 0] 0) 0 (Nat.le_refl _) (by simp [maxLen]) (by simp [madeCells]))
            have HB5 := hid ((Below.refl w4.heap.size w4).alloc (Nat.le_refl _) (.cells (madeCells #[.int .u8 0] 0) 5))
            generalize w4.alloc (.cells (madeCells #[.int .u8 0] 0) 5) = wy at *
            clear hmk5
            go_loopw [16, 17, 18, 90] (fun ov rv sv iv wr => ∃ (k : Nat), k ≤ m ∧ iv = .int .i64 (k : Nat) ∧ rv = .int .i64 (((S.take k).flatMap (·.r)).length : Nat) ∧ sv = .int .i64 (((S.take k).flatMap segF).length : Nat) ∧ Hid (Own wr w4.heap.size 5 ov (u8s ((S.take k).flatMap (·.t)))) ∧ Hid (Below w4.heap.size w4 wr)) (fun _ _ _ iv _ => m - (intOf iv).toNat)
            case atStart => exact ⟨0, by omega, rfl, rfl, rfl, HO0, HB5⟩
            case round =>
              clear HO0 HB5
              obtain ⟨k, hkm, rfl, rfl, rfl, HO, HB⟩ := hrel
              have hbs5 := HB.out.size
              by_cases hlt : k < m
              · have hlt2 : (k : Int) < (m : Int) := by omega
                obtain ⟨b5, o5, p5, hA5, hb5, c0, hp5, hOn⟩ := resOn HS.out k hlt
                injection hA5 with hA5
                injection hA5 with e1 e2
                subst e1; subst e2
                rw [Nat.zero_add] at c0
                have c1 : wr.cell? ⟨blk, k, none⟩ = some (.pointer (some ⟨p5, 0, none⟩)) := (HB.out.cell (p := ⟨blk, k, none⟩) hb5).trans c0
                obtain ⟨R, cR, nb, X, xm, xd, mm, gv, hFix⟩ := ResAt.fix hOn
                have HFX := hid hFix
                have hkS : k < S.length := by rw [HSL.out]; exact hlt
                have hqS : S.getD k rv0 ∈ S := by rw [List.getD, List.getElem?_eq_getElem hkS]; exact List.getElem_mem hkS
                have h256 := HS8.out _ hqS
                have HGNq := hid (HSN.out _ hqS)
                have T1 := flatMap_take (·.t) S k rv0 hkS
                have T2 := flatMap_take (·.r) S k rv0 hkS
                have T3 := flatMap_take segF S k rv0 hkS
                have b1 := Nat.le_trans (flat_len_take (·.t) S (k + 1)) HST.out
                have b2 := Nat.le_trans (flat_len_take (·.r) S (k + 1)) HSRL.out
                have b3 := Nat.le_trans (flat_len_take segF S (k + 1)) HSG.out
                rw [T1, List.length_append] at b1
                rw [T2, List.length_append] at b2
                rw [T3, List.length_append] at b3
                have N2 := congrArg List.length T2
                have N3 := congrArg List.length T3
                rw [List.length_append] at N2 N3
                have HN2 := hid N2
                have HN3 := hid N3
                have HT1 := hid T1
                clear T1 T2 T3 N2 N3 hFix hOn c0 hkS hqS
                generalize S.getD k rv0 = q at *
                obtain ⟨a1, ha1⟩ : ∃ a, a = ((S.take k).flatMap (·.r)).length := ⟨_, rfl⟩
                obtain ⟨a2, ha2⟩ : ∃ a, a = ((S.take k).flatMap segF).length := ⟨_, rfl⟩
                obtain ⟨a0, ha0⟩ : ∃ a, a = ((S.take k).flatMap (·.t)).length := ⟨_, rfl⟩
                rw [← ha1] at b2 HN2 ⊢
                rw [← ha2] at b3 HN3 ⊢
                rw [← ha0] at b1
                obtain ⟨rl, hrl⟩ : ∃ a, a = q.r.length := ⟨_, rfl⟩
                obtain ⟨tl, htl⟩ : ∃ a, a = q.t.length := ⟨_, rfl⟩
                obtain ⟨sl, hsl⟩ : ∃ a, a = (segF q).length := ⟨_, rfl⟩
                obtain ⟨st, hst⟩ : ∃ a, a = strOf q.t := ⟨_, rfl⟩
                rw [← hrl] at b2 HN2 HFX
                rw [← htl] at b1
                rw [← hsl] at b3 HN3
                rw [← hst] at HFX
                obtain ⟨hArr, hRd, hMeta, hGV⟩ := (HFX.out.below HB.out).here
                have gt := getTQ hArr
                obtain ⟨cp, w5, hcv, hR5, hb5w, hz5⟩ := str_conv wr q.t h256
                rw [← hst, show st.size = tl from by rw [hst, strOf_size, htl]] at hcv
                rw [← htl] at hR5
                have HR5 := hid hR5
                have HO5 := hid (HO.out.below hb5w (fun j hj => (HO.out.lt j hj).2))
                have HB5 := hid (HB.out.trans (hb5w.mono hbs5))
                have hB5s := HB5.out.size
                have HA0 := hid (show (u8s ((S.take k).flatMap (·.t))).length = a0 from by rw [u8s_len, ha0])
                have HQ := hid (And.intro hrl (And.intro htl hsl))
                clear ha1 ha2 ha0 hrl htl hsl hst hArr hRd hMeta hGV hR5 hb5w h256
                have m1 := hid (show (u8s ((S.take k).flatMap (·.t))).length + tl ≤ maxLen from by rw [HA0.out]; simp only [maxLen]; omega)
                have m2 := hid (show ((u8s ((S.take k).flatMap (·.t))).length + tl) * 1 ≤ 140737488355328 from by rw [HA0.out]; omega)
                go_wp2_with fail
                refine gt.mono ?_
                rintro e w1 ⟨rfl, rfl⟩
                go_wp2_with ((at_builtin; refine wpList_app _ rfl _ _ 22 rfl w4.heap.size 5 i5 _ 1 Try.underlying22 hi5 hz0 hz1 hz2 rfl _ (u8s ((S.take k).flatMap (·.t))) rfl ?_ (some ⟨wr.heap.size, 0, none⟩) tl cp (u8s q.t) rfl ?_ ?_ ?_ ?_ ?_ ?_))
                · exact HO5.out
                · exact HR5.out
                · exact u8s_one _
                · exact m1.out
                · exact m2.out
                · exact hB5s
                intro v6 w6 hO6 hg6 ho6
                have HO6 := hid (show Own w6 w4.heap.size 5 v6 (u8s ((S.take (k + 1)).flatMap (·.t))) from by rw [HT1.out, u8s_append]; exact hO6)
                have HB6 := hid (below_app HB5.out HO5.out hg6 (Nat.le_refl _) hB5s)
                clear hO6 hg6 ho6 HO5 HB5 gt hcv HR5
                obtain ⟨hArr, hRd, hMeta, hGV⟩ := (HFX.out.below HB6.out).here
                have gr := getRQ hArr
                have gm := getMQ hArr
                have lk := look2 hMeta
                clear m1 m2
                cases gv with
                | none =>
                  have tas := as23 none
                  change ∀ W, (Instr.typeAssert .nilIface 20 23 true).run Try.prog W = .ok (.tuple #[.slice none 0 0, .bool false]) W at tas
                  change (Instr.lookup 71 mm (.int .i64 2) false).run Try.prog w6 = .ok .nilIface w6 at lk
                  have hq0 : q.g = none := by
                    cases hq : q.g with
                    | none => rfl
                    | some Lg => rw [hq] at hGV; exact hGV.elim
                  have hs0 : sl = 0 := by rw [HQ.out.2.2, segF, hq0]; rfl
                  have HS0 := hid hs0
                  clear hArr hRd hMeta hGV hq0 hs0
                  go_wp2_with fail
                  refine gr.mono ?_
                  rintro e w1 ⟨rfl, rfl⟩
                  go_wp2_with fail
                  refine gm.mono ?_
                  rintro e w1 ⟨rfl, rfl⟩
                  go_wp2_with fail
                  go_roundw
                  case rel => first | exact ⟨k + 1, by omega, by go_num, by rw [HN2.out, Int.natCast_add], by rw [HN3.out, HS0.out, Nat.add_zero], HO6, HB6⟩ | ((repeat apply Exists.intro); exact ⟨⟨k + 1, by omega, rfl, by rw [HN2.out, Int.natCast_add], by rw [HN3.out, HS0.out, Nat.add_zero], HO6, HB6⟩, rfl⟩)
                  case measure => first | (simp [intOf]; done) | (simp [intOf]; omega)
                | some v =>
                  obtain ⟨Lg, hLg⟩ : ∃ Lg, q.g = some Lg := by
                    cases hq : q.g with
                    | none => rw [hq] at hGV; exact hGV.elim
                    | some Lg => exact ⟨Lg, rfl⟩
                  rw [hLg] at hGV
                  obtain ⟨G, cG, rfl, hGR⟩ := hGV
                  have tas := as23 (some (.slice G Lg.length cG))
                  change ∀ W, (Instr.typeAssert (.iface 23 (.slice G Lg.length cG)) 20 23 true).run Try.prog W = .ok (.tuple #[.slice G Lg.length cG, .bool true]) W at tas
                  change (Instr.lookup 71 mm (.int .i64 2) false).run Try.prog w6 = .ok (.iface 23 (.slice G Lg.length cG)) w6 at lk
                  have hs0 : sl = Lg.flatten.length := by rw [HQ.out.2.2, segF, hLg]; rfl
                  obtain ⟨gn, hgn⟩ : ∃ gn, gn = Lg.length := ⟨_, rfl⟩
                  rw [← hgn] at tas lk hGR
                  have HGR := hid hGR
                  have HGN := hid hgn
                  have HS0 := hid hs0
                  have hgn3 : gn ≤ 17179869184 := by rw [hgn]; exact HGNq.out Lg hLg
                  clear hArr hRd hMeta hGR hLg hs0 hgn
                  go_wp2_with fail
                  refine gr.mono ?_
                  rintro e w1 ⟨rfl, rfl⟩
                  go_wp2_with fail
                  refine gm.mono ?_
                  rintro e w1 ⟨rfl, rfl⟩
                  go_wp2_with fail
                  clear gr gm lk tas c1
                  go_loopw [18, 115] (fun sv jv wr => ∃ j : Nat, j ≤ gn ∧ jv = .int .i64 (j : Nat) ∧ sv = .int .i64 ((a2 + (Lg.take j).flatten.length : Nat) : Int) ∧ w6 = wr) (fun _ jv _ => gn - (intOf jv).toNat)
                  case atStart => exact ⟨0, by omega, rfl, rfl, rfl⟩
                  case round =>
                    obtain ⟨j, hj, rfl, rfl, rfl⟩ := hrel
                    by_cases hjl : j < gn
                    · have hjl2 : (j : Int) < (gn : Int) := by omega
                      obtain ⟨bb, ob, Rb, cb, hG, hbb, cj, hcj, _⟩ := HGR.out.bytes j hjl
                      subst hG
                      have T := flat_take Lg j (by rw [← HGN.out]; exact hjl)
                      have tb := flat_le Lg (j + 1)
                      rw [T, List.length_append, ← HS0.out] at tb
                      have HTJ := hid (congrArg List.length T)
                      obtain ⟨aj, haj⟩ : ∃ aj, aj = (Lg.take j).flatten.length := ⟨_, rfl⟩
                      obtain ⟨tj, htj⟩ : ∃ tj, tj = (Lg.getD j []).length := ⟨_, rfl⟩
                      rw [← haj, ← htj] at tb
                      rw [← htj] at cj hcj
                      have HAJ := hid (show (Lg.take (j + 1)).flatten.length = aj + tj from by rw [HTJ.out, List.length_append, haj, htj])
                      rw [← haj]
                      clear T HTJ haj htj
                      go_wp2_with fail
                      go_roundw
                      case rel => first | exact ⟨j + 1, by omega, by go_num, by rw [HAJ.out]; congr 1; omega, trivial⟩ | ((repeat apply Exists.intro); exact ⟨⟨j + 1, by omega, rfl, by rw [HAJ.out]; congr 1; omega, trivial⟩, rfl⟩)
                      case measure => first | (simp [intOf]; done) | (simp [intOf]; omega)
                    · obtain rfl : j = gn := by omega
                      have hjl2 : ¬ (j : Int) < (j : Int) := by omega
                      have HSS := hid (show (Lg.take j).flatten.length = sl from by rw [List.take_of_length_le (by rw [HGN.out]; exact Nat.le_refl _), HS0.out])
                      rw [HSS.out]
                      clear hjl
                      go_wp2_with fail
                      go_roundw
                      case rel => first | exact ⟨k + 1, by omega, by go_num, by rw [HN2.out, Int.natCast_add], by rw [HN3.out], HO6, HB6⟩ | ((repeat apply Exists.intro); exact ⟨⟨k + 1, by omega, rfl, by rw [HN2.out, Int.natCast_add], by rw [HN3.out], HO6, HB6⟩, rfl⟩)
                      case measure => first | (simp [intOf]; done) | (simp [intOf]; omega)
              · obtain rfl : k = m := by omega
                have hlt2 : ¬ (k : Int) < (k : Int) := by omega
                have htk : S.take k = S := List.take_of_length_le (by rw [HSL.out]; exact Nat.le_refl _)
                rw [htk] at HO ⊢
                have HOT := hid HO.out
                obtain ⟨rl, hrl⟩ : ∃ a, a = (S.flatMap (·.r)).length := ⟨_, rfl⟩
                obtain ⟨sl, hsl⟩ : ∃ a, a = (S.flatMap segF).length := ⟨_, rfl⟩
                rw [← hrl, ← hsl]
                have hrlb : rl ≤ 17179869184 := by rw [hrl]; exact HSRL.out
                have hslb : sl ≤ 17179869184 := by rw [hsl]; exact HSG.out
                have hmkR := fun W => run_make (P := Try.prog) W 22 5 i5 (.int .u8 0) Try.underlying22 hi5 hz0 .i64 .i64 (rl : Int) (rl : Int) (by omega) (by omega) (by rw [hz2]; omega) (by omega)
                have hmkS := fun W => run_make (P := Try.prog) W 22 5 i5 (.int .u8 0) Try.underlying22 hi5 hz0 .i64 .i64 (sl : Int) (sl : Int) (by omega) (by omega) (by rw [hz2]; omega) (by omega)
                simp only [hz1] at hmkR hmkS
                have HRE := hid hrl
                have HSE := hid hsl
                have HB7 := hid HB.out
                clear htk HO HB hlt hrl hsl hkm
                go_wp2_with fail
                have A1 := (Arr.made wr 5 (.int .u8 0) rl).alloc (.cells (madeCells #[.int .u8 0] sl) 5)
                have A2 := Arr.made (wr.alloc (.cells (madeCells #[.int .u8 0] rl) 5)) 5 (.int .u8 0) sl
                rw [World.size_alloc] at A2
                rw [← fil_zero] at A1 A2
                have HBW := hid (((Below.refl wr.heap.size wr).alloc (Nat.le_refl _) (.cells (madeCells #[.int .u8 0] rl) 5)).alloc (by rw [World.size_alloc]; omega) (.cells (madeCells #[.int .u8 0] sl) 5))
                have HA1 := hid (show Arr _ wr.heap.size 5 (fil ((S.take 0).flatMap (·.r)) rl) from A1)
                have HA2 := hid (show Arr _ (wr.heap.size + 1) 5 (fil ((S.take 0).flatMap segF) sl) from A2)
                generalize (wr.alloc (.cells (madeCells #[.int .u8 0] rl) 5)).alloc (.cells (madeCells #[.int .u8 0] sl) 5) = wx at *
                obtain ⟨g1, hg1⟩ : ∃ g1, g1 = wr.heap.size := ⟨_, rfl⟩
                have HG1 := hid hg1
                rw [← hg1] at HA1 HA2 HBW ⊢
                clear A1 A2 hmkR hmkS hg1
                have hin5 : (Try.prog.info? 5).map (·.size) = some 1 := by rw [hi5, Option.map_some, hz1]
                obtain ⟨w7, hw7⟩ : ∃ w7, w7 = wr := ⟨_, rfl⟩
                rw [← hw7] at HOT HB7 HBW HG1 hbs5
                clear hw7
                go_loopw [28, 29, 131] (fun xv yv iv wr => ∃ (k' : Nat), k' ≤ k ∧ iv = .int .i64 (k' : Nat) ∧ xv = .int .i64 (((S.take k').flatMap (·.r)).length : Nat) ∧ yv = .int .i64 (((S.take k').flatMap segF).length : Nat) ∧ Hid (Arr wr g1 5 (fil ((S.take k').flatMap (·.r)) rl)) ∧ Hid (Arr wr (g1 + 1) 5 (fil ((S.take k').flatMap segF) sl)) ∧ Hid (Below g1 w7 wr)) (fun _ _ iv _ => k - (intOf iv).toNat)
                case atStart => exact ⟨0, by omega, rfl, rfl, rfl, HA1, HA2, HBW⟩
                case round =>
                  clear HA1 HA2 HBW
                  obtain ⟨j, hjk, rfl, rfl, rfl, HA1, HA2, HB⟩ := hrel
                  have HB4w := hid (HB7.out.trans (HB.out.mono (by rw [HG1.out]; exact hbs5)))
                  by_cases hlt : j < k
                  · have hlt3 : (j : Int) < (k : Int) := by omega
                    obtain ⟨b5, o5, p5, hA5, hb5, c0, hp5, hOn⟩ := resOn HS.out j hlt
                    injection hA5 with hA5
                    injection hA5 with e1 e2
                    subst e1; subst e2
                    rw [Nat.zero_add] at c0
                    have c1 : wr.cell? ⟨blk, j, none⟩ = some (.pointer (some ⟨p5, 0, none⟩)) := (HB4w.out.cell (p := ⟨blk, j, none⟩) hb5).trans c0
                    obtain ⟨R, cR, nb, X, xm, xd, mm, gv, hFix⟩ := ResAt.fix hOn
                    have HFX := hid hFix
                    have hkS : j < S.length := by rw [HSL.out]; exact hlt
                    have hqS : S.getD j rv0 ∈ S := by rw [List.getD, List.getElem?_eq_getElem hkS]; exact List.getElem_mem hkS
                    have hr1q := HSR.out _ hqS
                    have HGNq := hid (HSN.out _ hqS)
                    have T2 := flatMap_take (·.r) S j rv0 hkS
                    have T3 := flatMap_take segF S j rv0 hkS
                    have b2 := flat_len_take (·.r) S (j + 1)
                    have b3 := flat_len_take segF S (j + 1)
                    rw [T2, List.length_append, ← HRE.out] at b2
                    rw [T3, List.length_append, ← HSE.out] at b3
                    have HT2 := hid T2
                    have HT3 := hid T3
                    clear T2 T3 hFix hOn c0 hkS hqS
                    generalize S.getD j rv0 = q at *
                    generalize hd1 : (S.take j).flatMap (·.r) = d1 at *
                    generalize hd2 : (S.take j).flatMap segF = d2 at *
                    clear hd1 hd2
                    obtain ⟨a1, ha1⟩ : ∃ a, a = d1.length := ⟨_, rfl⟩
                    obtain ⟨a2, ha2⟩ : ∃ a, a = d2.length := ⟨_, rfl⟩
                    rw [← ha1] at b2 ⊢
                    rw [← ha2] at b3 ⊢
                    obtain ⟨ql, hql⟩ : ∃ a, a = q.r.length := ⟨_, rfl⟩
                    rw [← hql] at b2 HFX hr1q
                    obtain ⟨hArr, hRd, hMeta, hGV⟩ := (HFX.out.below HB4w.out).here
                    obtain ⟨bR, oR, hRe, _, _⟩ := hRd.2 (by omega)
                    subst hRe
                    have gr := getRQ hArr.drew
                    have HRD := hid hRd.drew
                    have HFW := hid (HFX.out.below HB4w.out.drew)
                    have HA1d := hid HA1.out.drew
                    have HA2d := hid HA2.out.drew
                    have HBd := hid HB.out.drew
                    have k1 : (0 : Int) ≤ (a1 : Int) := by omega
                    have k2 : (a1 : Int) ≤ (rl : Int) := by omega
                    have k3 : ¬ rl = a1 := by omega
                    have HA1L := hid ha1
                    have HA2L := hid ha2
                    have HQL := hid hql
                    have HSQ := hid (show splice (fil d1 rl) a1 (u8s q.r) = fil (d1 ++ q.r) rl from by rw [ha1]; exact fil_put d1 q.r rl (by rw [← ha1, ← hql]; exact b2))
                    have HFL := hid (show (fil d1 rl).length = rl from fil_len d1 rl (by rw [← ha1]; omega))
                    have HUL := hid (show (u8s q.r).length = ql from by rw [u8s_len, hql])
                    clear hArr hRd hMeta hGV ha1 ha2 hql HA1 HA2 HB HB4w
                    go_wp2_with fail
                    refine wp_region_still_tail 5 (by kernel_rfl) (by kernel_rfl) ?_
                    change wpStill _ _ wr.drew (fun a' => wpList _ _ _ _ a' wr.drew) _ _
                    clear c1
                    generalize wr.drew = w2 at *
                    simp only [List.take_succ_cons, List.take_zero, List.drop_succ_cons, List.drop_zero]
                    iterate 4 still_step
                    refine wpStill_step (fun K hK => ?_)
                    go_simp
                    refine ⟨.slice (some ⟨bR, oR, none⟩) ql cR, ?_, ?_⟩
                    · with_reducible refine gr.mono ?_
                      rintro e w5 ⟨rfl, rfl⟩
                      exact ⟨rfl, rfl⟩
                    refine hK _ ?_
                    clear hK K gr
                    rw [wpStill]
                    show wpList _ _ _ _ _ _
                    go_wp2_with (refine wpList_copyK rfl (.tmp 137) (.tmp 139) 22 22 rfl 5 Try.underlying22 hin5 (some ⟨g1, a1, none⟩) (some ⟨bR, oR, none⟩) (rl - a1) (rl - a1) ql cR rfl rfl g1 a1 (fil d1 rl) 5 HA1d.out (u8s q.r) ?_ ?_ ?_ ?_ ?_)
                    · rw [HUL.out]; exact (Nat.min_eq_left (by omega)).symm
                    · exact fun _ => rd_cells HRD.out
                    · rw [HUL.out, HFL.out]; exact b2
                    · exact u8s_one _
                    intro w3 hw3 hk3
                    have HA3 := hid (show Arr w3 g1 5 (fil (d1 ++ q.r) rl) from by rw [← HSQ.out]; exact hw3.out)
                    have HA4 := hid (show Arr w3 (g1 + 1) 5 (fil d2 sl) from (hk3.block (g1 + 1) HA2d.out.lt (by omega)).trans HA2d.out)
                    have HB3 := hid (HBd.out.trans (hk3.toBelow (Nat.le_of_lt HA1d.out.lt) (Nat.le_refl _)))
                    clear hw3 hk3 HA1d HA2d HBd HRD HFW
                    have HF3 := hid (HFX.out.below (HB7.out.trans (HB3.out.mono (by rw [HG1.out]; exact hbs5))))
                    obtain ⟨hArr, hRd, hMeta, hGV⟩ := HF3.out.here
                    have gr := getRQ hArr
                    have gm := getMQ hArr
                    have lk := look2 hMeta
                    have N1 := hid (show ((S.take (j + 1)).flatMap (·.r)).length = a1 + ql from by rw [HT2.out, List.length_append, ← HA1L.out, ← HQL.out])
                    have N2 := hid (show ((S.take (j + 1)).flatMap segF).length = a2 + (segF q).length from by rw [HT3.out, List.length_append, ← HA2L.out])
                    cases gv with
                    | none =>
                      have tas := as23 none
                      change ∀ W, (Instr.typeAssert .nilIface 20 23 true).run Try.prog W = .ok (.tuple #[.slice none 0 0, .bool false]) W at tas
                      change (Instr.lookup 71 mm (.int .i64 2) false).run Try.prog w3 = .ok .nilIface w3 at lk
                      have hq0 : q.g = none := by
                        cases hq : q.g with
                        | none => rfl
                        | some Lg => rw [hq] at hGV; exact hGV.elim
                      have HS0 := hid (show segF q = [] from by rw [segF, hq0]; rfl)
                      have HR1 := hid (show Arr w3 g1 5 (fil ((S.take (j + 1)).flatMap (·.r)) rl) from by rw [HT2.out]; exact HA3.out)
                      have HR2 := hid (show Arr w3 (g1 + 1) 5 (fil ((S.take (j + 1)).flatMap segF) sl) from by rw [HT3.out, HS0.out, List.append_nil]; exact HA4.out)
                      clear hArr hRd hMeta hGV hq0 HA3 HA4
                      go_wp2_with fail
                      refine gr.mono ?_
                      rintro e w1 ⟨rfl, rfl⟩
                      go_wp2_with fail
                      refine gm.mono ?_
                      rintro e w1 ⟨rfl, rfl⟩
                      go_wp2_with fail
                      go_roundw
                      case rel => first | exact ⟨j + 1, by omega, by go_num, by rw [N1.out, Int.natCast_add], by rw [N2.out, HS0.out]; rfl, HR1, HR2, HB3⟩ | ((repeat apply Exists.intro); exact ⟨⟨j + 1, by omega, rfl, by rw [N1.out, Int.natCast_add], by rw [N2.out, HS0.out]; rfl, HR1, HR2, HB3⟩, rfl⟩)
                      case measure => first | (simp [intOf]; done) | (simp [intOf]; omega)
                    | some v =>
                      obtain ⟨Lg, hLg⟩ : ∃ Lg, q.g = some Lg := by
                        cases hq : q.g with
                        | none => rw [hq] at hGV; exact hGV.elim
                        | some Lg => exact ⟨Lg, rfl⟩
                      rw [hLg] at hGV
                      obtain ⟨G, cG, rfl, hGR⟩ := hGV
                      have tas := as23 (some (.slice G Lg.length cG))
                      change ∀ W, (Instr.typeAssert (.iface 23 (.slice G Lg.length cG)) 20 23 true).run Try.prog W = .ok (.tuple #[.slice G Lg.length cG, .bool true]) W at tas
                      change (Instr.lookup 71 mm (.int .i64 2) false).run Try.prog w3 = .ok (.iface 23 (.slice G Lg.length cG)) w3 at lk
                      have HSF := hid (show segF q = Lg.flatten from by rw [segF, hLg]; rfl)
                      obtain ⟨gn, hgn⟩ : ∃ gn, gn = Lg.length := ⟨_, rfl⟩
                      have hgn3 : gn ≤ 17179869184 := by rw [hgn]; exact HGNq.out Lg hLg
                      rw [← hgn] at tas lk hGR
                      have HGN := hid hgn
                      have HR1 := hid (show Arr w3 g1 5 (fil ((S.take (j + 1)).flatMap (·.r)) rl) from by rw [HT2.out]; exact HA3.out)
                      have HA4' := hid (show Arr w3 (g1 + 1) 5 (fil (d2 ++ (Lg.take 0).flatten) sl) from by rw [List.take_zero, List.flatten_nil, List.append_nil]; exact HA4.out)
                      have HGO := hid (fun W (hW : Below w4.heap.size w4 W) => show RdL FB 1 W G gn Lg from by
                        obtain ⟨_, _, _, hG'⟩ := (HFX.out.below hW).here
                        rw [hLg] at hG'
                        obtain ⟨G', c', e', hR'⟩ := hG'
                        injection e' with e1 e2 e3
                        subst e1
                        rw [hgn]; exact hR')
                      have HBW := hid (HB7.out.trans (HB3.out.mono (by rw [HG1.out]; exact hbs5)))
                      have HB3l := hid HA3.out.lt
                      clear hArr hRd hMeta hGR hLg hgn HA4
                      go_wp2_with fail
                      refine gr.mono ?_
                      rintro e w1 ⟨rfl, rfl⟩
                      go_wp2_with fail
                      refine gm.mono ?_
                      rintro e w1 ⟨rfl, rfl⟩
                      go_wp2_with fail
                      clear gr gm lk tas
                      go_loopw [29, 157] (fun yv tv wr => ∃ t : Nat, t ≤ gn ∧ tv = .int .i64 (t : Nat) ∧ yv = .int .i64 ((a2 + (Lg.take t).flatten.length : Nat) : Int) ∧ Hid (Arr wr g1 5 (fil ((S.take (j + 1)).flatMap (·.r)) rl)) ∧ Hid (Arr wr (g1 + 1) 5 (fil (d2 ++ (Lg.take t).flatten) sl)) ∧ Hid (Kp w3.heap.size (g1 + 1) w3 wr)) (fun _ tv _ => gn - (intOf tv).toNat)
                      case atStart => exact ⟨0, by omega, rfl, rfl, HR1, HA4', hid (Kp.refl _ _ _)⟩
                      case round =>
                        clear HR1 HA4'
                        obtain ⟨t, htg, rfl, rfl, HR1, HR2, HK⟩ := hrel
                        by_cases htl : t < gn
                        · have htl2 : (t : Int) < (gn : Int) := by omega
                          have hgs : w4.heap.size ≤ g1 := by rw [HG1.out]; exact hbs5
                          have HWW := hid (HBW.out.trans (HK.out.toBelow (C := w4.heap.size) HBW.out.size (by omega)))
                          obtain ⟨bb, ob, Rb, cb, hG, hbb, cj, hcj, hrj⟩ := (HGO.out wr HWW.out).bytes t htl
                          subst hG
                          have T := flat_take Lg t (by rw [← HGN.out]; exact htl)
                          have tb := flat_le Lg (t + 1)
                          rw [HSF.out] at b3
                          rw [T, List.length_append] at tb
                          generalize hst : Lg.getD t [] = sg at *
                          generalize hpre : (Lg.take t).flatten = pre at *
                          obtain ⟨y, hy⟩ : ∃ y, y = a2 + pre.length := ⟨_, rfl⟩
                          obtain ⟨tj, htj⟩ : ∃ tj, tj = sg.length := ⟨_, rfl⟩
                          rw [← hy]
                          rw [← htj] at cj hcj hrj tb
                          have hyt : y + tj ≤ sl := by omega
                          have HY := hid hy
                          have HTJ := hid htj
                          have HRJ := hid hrj
                          have HTT := hid T
                          have HSQ2 := hid (show splice (fil (d2 ++ pre) sl) y (u8s sg) = fil (d2 ++ (Lg.take (t + 1)).flatten) sl from by
                            rw [T, ← List.append_assoc, hy, HA2L.out, ← List.length_append]
                            exact fil_put (d2 ++ pre) sg sl (by rw [List.length_append, ← HA2L.out, ← hy, ← htj]; exact hyt))
                          have HFL2 := hid (show (fil (d2 ++ pre) sl).length = sl from fil_len _ _ (by rw [List.length_append, ← HA2L.out, ← hy]; omega))
                          have HUL2 := hid (show (u8s sg).length = tj from by rw [u8s_len, htj])
                          have hy1 : (0 : Int) ≤ (y : Int) := by omega
                          have hy2 : (y : Int) ≤ (sl : Int) := by omega
                          have HLN := hid (show a2 + (Lg.take (t + 1)).flatten.length = y + tj from by rw [T, List.length_append, hy, htj]; omega)
                          have hyb : y ≤ 17179869184 := by omega
                          clear hst hpre hy htj hrj T tb b3
                          by_cases hys : sl = y
                          · have h0 : tj = 0 := by omega
                            have H0 := hid h0
                            clear h0
                            go_wp2_with (refine wpList_copyK rfl (.tmp 163) (.tmp 164) 22 22 rfl 5 Try.underlying22 hin5 _ _ _ _ _ _ rfl rfl (g1 + 1) y (fil (d2 ++ pre) sl) 5 HR2.out (u8s sg) ?_ ?_ ?_ ?_ ?_)
                            · rw [HUL2.out, H0.out]; rfl
                            · exact fun h => absurd h (by rw [HUL2.out, H0.out]; omega)
                            · rw [HUL2.out, HFL2.out]; exact hyt
                            · exact u8s_one _
                            intro w9 hw9 hk9
                            have HP1 := hid (show Arr w9 g1 5 (fil ((S.take (j + 1)).flatMap (·.r)) rl) from (hk9.block g1 HR1.out.lt (by omega)).trans HR1.out)
                            have HP2 := hid (show Arr w9 (g1 + 1) 5 (fil (d2 ++ (Lg.take (t + 1)).flatten) sl) from by rw [← HSQ2.out]; have h9 := hw9.out; rw [← hys] at h9; first | exact h9 | (rw [← hys]; exact h9))
                            have HK9 := hid (HK.out.trans (hk9.mono HK.out.size))
                            clear hw9 hk9 cj hy1 hy2
                            go_wp2_with fail
                            try subst hys
                            go_roundw
                            case rel => first | exact ⟨t + 1, by omega, by go_num, by rw [HLN.out]; first | done | rw [Int.natCast_add] | simp, HP1, HP2, HK9⟩ | ((repeat apply Exists.intro); exact ⟨⟨t + 1, by omega, rfl, by rw [HLN.out]; first | done | rw [Int.natCast_add] | simp, HP1, HP2, HK9⟩, rfl⟩)
                            case measure => first | (simp [intOf]; done) | (simp [intOf]; omega)
                          · go_wp2_with (refine wpList_copyK rfl (.tmp 163) (.tmp 164) 22 22 rfl 5 Try.underlying22 hin5 _ _ _ _ _ _ rfl rfl (g1 + 1) y (fil (d2 ++ pre) sl) 5 HR2.out (u8s sg) ?_ ?_ ?_ ?_ ?_)
                            · rw [HUL2.out]; exact (Nat.min_eq_left (by omega)).symm
                            · first | exact fun h => rd_src HRJ.out h | exact fun h => ⟨rfl, rd_src HRJ.out h⟩
                            · rw [HUL2.out, HFL2.out]; exact hyt
                            · exact u8s_one _
                            intro w9 hw9 hk9
                            have HP1 := hid (show Arr w9 g1 5 (fil ((S.take (j + 1)).flatMap (·.r)) rl) from (hk9.block g1 HR1.out.lt (by omega)).trans HR1.out)
                            have HP2 := hid (show Arr w9 (g1 + 1) 5 (fil (d2 ++ (Lg.take (t + 1)).flatten) sl) from by rw [← HSQ2.out]; exact hw9.out)
                            have HK9 := hid (HK.out.trans (hk9.mono HK.out.size))
                            clear hw9 hk9 cj hy1 hy2
                            go_wp2_with fail
                            go_roundw
                            case rel => first | exact ⟨t + 1, by omega, by go_num, by rw [HLN.out]; first | done | rw [Int.natCast_add] | simp, HP1, HP2, HK9⟩ | ((repeat apply Exists.intro); exact ⟨⟨t + 1, by omega, rfl, by rw [HLN.out]; first | done | rw [Int.natCast_add] | simp, HP1, HP2, HK9⟩, rfl⟩)
                            case measure => first | (simp [intOf]; done) | (simp [intOf]; omega)
                        · obtain rfl : t = gn := by omega
                          have htl2 : ¬ (t : Int) < (t : Int) := by omega
                          have hfl : (Lg.take t).flatten = Lg.flatten := by rw [List.take_of_length_le (by rw [HGN.out]; exact Nat.le_refl _)]
                          have HR2' := hid (show Arr wr (g1 + 1) 5 (fil ((S.take (j + 1)).flatMap segF) sl) from by rw [HT3.out, HSF.out, ← hfl]; exact HR2.out)
                          have HBE := hid (show Below g1 w7 wr from HB3.out.trans (HK.out.toBelow (Nat.le_of_lt HB3l.out) (by omega)))
                          have HN2 := hid (show ((S.take (j + 1)).flatMap segF).length = a2 + (Lg.take t).flatten.length from by rw [N2.out, HSF.out, hfl])
                          clear hfl htl
                          go_wp2_with fail
                          go_roundw
                          case rel => first | exact ⟨j + 1, by omega, by go_num, by rw [N1.out, Int.natCast_add], by rw [HN2.out], HR1, HR2', HBE⟩ | ((repeat apply Exists.intro); exact ⟨⟨j + 1, by omega, rfl, by rw [N1.out, Int.natCast_add], by rw [HN2.out], HR1, HR2', HBE⟩, rfl⟩)
                          case measure => first | (simp [intOf]; done) | (simp [intOf]; omega)
                  · obtain rfl : j = k := by omega
                    have hlt3 : ¬ (j : Int) < (j : Int) := by omega
                    have htk : S.take j = S := List.take_of_length_le (by rw [HSL.out]; exact Nat.le_refl _)
                    rw [htk] at HA1 HA2 ⊢
                    rw [← HRE.out, ← HSE.out]
                    have HR1' := hid (show Arr wr g1 5 (u8s (S.flatMap (·.r))) from by have := HA1.out; rwa [fil_full _ _ HRE.out.symm] at this)
                    have HR2' := hid (show Arr wr (g1 + 1) 5 (u8s (S.flatMap segF)) from by have := HA2.out; rwa [fil_full _ _ HSE.out.symm] at this)
                    have HOW := hid (HOT.out.below HB.out (fun i hi => by have := (HOT.out.lt i hi).2; rw [HG1.out]; exact this))
                    have HN7 := hid (HN4.out.below HB4w.out (Nat.le_refl _))
                    obtain ⟨A16, c16, hv16, hR16, hc16⟩ := HOW.out.form
                    have cvt := rd_str (c := c16) hR16
                    obtain ⟨n16, hn16⟩ : ∃ n, n = (u8s (S.flatMap (·.t))).length := ⟨_, rfl⟩
                    rw [← hn16] at hv16 cvt
                    obtain ⟨st, hst⟩ : ∃ st, st = strOf (S.flatMap (·.t)) := ⟨_, rfl⟩
                    rw [← hst] at cvt
                    have HST2 := hid hst
                    subst hv16
                    have HB4x := hid (HB4.out.trans (HB4w.out.mono HB4.out.size))
                    have HG14 := hid (show w4.heap.size ≤ g1 from by rw [HG1.out]; exact hbs5)
                    have nq := fun (W : World) (X : Option Addr) => newQ st (some ⟨g1, 0, none⟩) X rl rl 0 0 11 W
                    clear hR16 hc16 hn16 hst htk hlt hjk HA1 HA2 HOT HB HB4w
                    go_wp2_with fail
                    refine (nq _ _).mono ?_
                    rintro e w8 ⟨p8, nb8, rfl, hA8, hp8, hb8⟩
                    rw [World.size_alloc] at hp8 hb8
                    have HB8 := hid (show Below wr.heap.size wr w8 from ((Below.refl wr.heap.size wr).alloc (Nat.le_refl _) (.cells #[] 262)).trans (hb8.mono (by omega)))
                    have HA8 := hid hA8
                    have HLE := hid (show (L.filter fun x => !isSA x).length ≤ 64 from by have := List.length_filter_le (fun x => !isSA x) L; rw [HNL.out] at this; omega)
                    have HV := hid (fun k hk => (HN4.out.lt k hk).2)
                    have hgw : g1 + 1 < wr.heap.size := HR2'.out.lt
                    clear nq hA8 hb8 cvt HOW
                    by_cases hz : sl = 0
                    · have hj : joinR S = ⟨S.flatMap (·.t), S.flatMap (·.r), none, none⟩ := by unfold joinR; rw [if_pos (by rw [← HSE.out]; exact hz)]
                      have HNE := hid ((HN7.out.below HB8.out (Nat.le_refl _)).mono (T := Al) (fun _ _ => trivial))
                      have HBE := hid (HB4x.out.trans (HB8.out.mono HB4x.out.size))
                      have HOF := hid (show On (offS Al _) w8 (fun W => FR W [.pointer (some ⟨p8, 0, none⟩)] (joinR S)) from by
                        rw [hj]
                        refine ResAt.on (n := rl) (S := offS Al _) HRE.out (by rw [← HST2.out]; exact HA8.out) ⟨trivial, fun e => by have := HV.out p8 e; have := HG14.out; omega⟩ ?_ (fun _ a ha => ?_) (.inl ⟨rfl, rfl, rfl⟩) (fun b hb => by cases hb) (gv := none) (On.const trivial)
                        · have := Rd.of_arr (HR1'.out.below HB8.out (by omega))
                          rwa [u8s_len, ← HRE.out] at this
                        · injection ha with ha
                          subst ha
                          exact ⟨trivial, fun e => by have := HV.out g1 e; have := HG14.out; omega⟩)
                      have hz' : ¬ (0 : Int) < (sl : Int) := by omega
                      clear hj hz
                      go_wp2_with ((at_builtin; refine wpList_appK (F := FR) (S := Al) _ rfl _ _ 60 rfl w.heap.size 61 i61 _ 1 8 Try.underlying60 gi gz0 gz1 gz2 rfl (by omega) _ (L.filter fun x => !isSA x) rfl ?_ ⟨w8.heap.size, 0, none⟩ 1 [.pointer (some ⟨p8, 0, none⟩)] (joinR S) rfl rfl ?_ ?_ ?_ ?_ ?_ ?_ ?_))
                      · exact HNE.out.alloc _
                      · exact cell_new w8 #[.pointer (some ⟨p8, 0, none⟩)] 61 _ rfl
                      · simp [Value.oneCell']
                      · exact HOF.out.alloc _
                      · have := HLE.out; simp only [maxLen]; omega
                      · have := HLE.out; omega
                      · rw [World.size_alloc]; have := HBE.out.size; omega
                      intro v9 w9 hO9 hg9 ho9
                      have hBF := hid (below_appL (HBE.out.alloc HBE.out.size (.cells #[.pointer (some ⟨p8, 0, none⟩)] 61)) (HNE.out.alloc _) hg9 (Nat.le_refl _) (by rw [World.size_alloc]; have := HBE.out.size; omega))
                      obtain ⟨A9, c9, hv9, hc9⟩ := hO9.form
                      obtain ⟨n9, hn9⟩ : ∃ n, n = ((L.filter fun x => !isSA x) ++ [joinR S]).length := ⟨_, rfl⟩
                      rw [← hn9] at hv9 hc9
                      subst hv9
                      have HOF9 := hid (hO9.rdl hn9 (fun _ h => h) (fun _ _ => trivial))
                      have HN9 := hid hn9
                      have HC9 := hid hc9
                      clear hO9 hg9 ho9 hn9 hc9
                      go_wp2_with fail
                      go_ret
                      exact ⟨A9, n9, c9, _, rfl, HN9.out, HC9.out, .inr ⟨S, HP.out, HSO.out.imp (fun h => by omega), HSB.out, rfl⟩, HOF9.out, hBF.out⟩
                    · have hz' : (0 : Int) < (sl : Int) := by omega
                      have hj : joinR S = ⟨S.flatMap (·.t), S.flatMap (·.r), some [S.flatMap segF], none⟩ := by unfold joinR; rw [if_neg (by rw [← HSE.out]; exact hz)]
                      have HJ := hid hj
                      have pq := put1Q p8 2 (.iface 23 (.slice (some ⟨w8.heap.size, 0, none⟩) 1 1)) _ _ _ _ _ _ (w8.alloc (.cells #[.slice (some ⟨g1 + 1, 0, none⟩) sl sl] 22)) (HA8.out.alloc _)
                      have HGL2 := hid (Arr.of_new w8 22 #[.slice (some ⟨g1 + 1, 0, none⟩) sl sl])
                      have hp8l := HA8.out.lt
                      clear hj hz
                      go_wp2_with fail
                      refine pq.mono ?_
                      rintro e w5 ⟨b5, hb5l, rfl, hA5, hh5, hk5⟩
                      rw [World.size_alloc] at hb5l hk5
                      have hB85 : Below wr.heap.size w8 w5 := ((Below.refl wr.heap.size w8).alloc HB8.out.size _).trans (hk5.toBelow (by have := HB8.out.size; omega) (by omega))
                      have HB85 := hid hB85
                      have HBX := hid (HB8.out.trans hB85)
                      have HNE := hid ((HN7.out.below HBX.out (Nat.le_refl _)).mono (T := Al) (fun _ _ => trivial))
                      have HBE := hid (HB4x.out.trans (HBX.out.mono HB4x.out.size))
                      have HOF := hid (show On (offS Al _) w5 (fun W => FR W [.pointer (some ⟨p8, 0, none⟩)] (joinR S)) from by
                        rw [HJ.out]
                        have hgs := HG14.out
                        have hw4 := HB8.out.size
                        refine ResAt.on (n := rl) (S := offS Al _) HRE.out (by rw [← HST2.out]; exact hA5) ⟨trivial, fun e => by have := HV.out p8 e; omega⟩ ?_ (fun _ a ha => ?_) (.inr ⟨b5, _, _, rfl, hh5, rfl⟩) (fun b hb => ?_) (gv := some (.slice (some ⟨w8.heap.size, 0, none⟩) 1 1)) ?_
                        · have := Rd.of_arr (HR1'.out.below HBX.out (by omega))
                          rwa [u8s_len, ← HRE.out] at this
                        · injection ha with ha
                          subst ha
                          exact ⟨trivial, fun e => by have := HV.out g1 e; omega⟩
                        · injection hb with hb
                          injection hb with hb
                          subst hb
                          exact ⟨trivial, fun e => by have := HV.out b5 e; omega⟩
                        · refine (segOn (gl := w8.heap.size) (g2 := g1 + 1) (n := sl) ((hk5.block w8.heap.size (by omega) (by omega)).trans HGL2.out) (HR2'.out.below HBX.out hgw) HSE.out.symm ⟨trivial, fun e => by have := HV.out _ e; omega⟩ ⟨trivial, fun e => by have := HV.out _ e; omega⟩).imp (fun W h => ⟨_, 1, rfl, h⟩))
                      clear pq hA5 hh5 hk5 hB85
                      go_wp2_with ((at_builtin; refine wpList_appK (F := FR) (S := Al) _ rfl _ _ 60 rfl w.heap.size 61 i61 _ 1 8 Try.underlying60 gi gz0 gz1 gz2 rfl (by omega) _ (L.filter fun x => !isSA x) rfl ?_ ⟨w5.heap.size, 0, none⟩ 1 [.pointer (some ⟨p8, 0, none⟩)] (joinR S) rfl rfl ?_ ?_ ?_ ?_ ?_ ?_ ?_))
                      · exact HNE.out.alloc _
                      · exact cell_new w5 #[.pointer (some ⟨p8, 0, none⟩)] 61 _ rfl
                      · simp [Value.oneCell']
                      · exact HOF.out.alloc _
                      · have := HLE.out; simp only [maxLen]; omega
                      · have := HLE.out; omega
                      · rw [World.size_alloc]; have := HBE.out.size; omega
                      intro v9 w9 hO9 hg9 ho9
                      have hBF := hid (below_appL (HBE.out.alloc HBE.out.size (.cells #[.pointer (some ⟨p8, 0, none⟩)] 61)) (HNE.out.alloc _) hg9 (Nat.le_refl _) (by rw [World.size_alloc]; have := HBE.out.size; omega))
                      obtain ⟨A9, c9, hv9, hc9⟩ := hO9.form
                      obtain ⟨n9, hn9⟩ : ∃ n, n = ((L.filter fun x => !isSA x) ++ [joinR S]).length := ⟨_, rfl⟩
                      rw [← hn9] at hv9 hc9
                      subst hv9
                      have HOF9 := hid (hO9.rdl hn9 (fun _ h => h) (fun _ _ => trivial))
                      have HN9 := hid hn9
                      have HC9 := hid hc9
                      clear hO9 hg9 ho9 hn9 hc9
                      go_wp2_with fail
                      go_ret
                      exact ⟨A9, n9, c9, _, rfl, HN9.out, HC9.out, .inr ⟨S, HP.out, HSO.out.imp (fun h => by omega), HSB.out, rfl⟩, HOF9.out, hBF.out⟩
end Go.Proofs.Ytpffffhgmhpkiaa
