/- The reader's segment in the mode C40. -/
import Derived.Test.YtfmjkflihnfneaaDoorDnQ
namespace Go.Proofs.YtfmjkflihnfneaaDoor
open Go.RowKit
set_option linter.unusedVariables false
set_option linter.unusedSimpArgs false

set_option maxRecDepth 20000 in
set_option maxHeartbeats 8000000 in
theorem segC (W : List Nat) (A : Option Addr) (c q B p qe : Nat) (v : Value) (o l : List Nat) (mp : Value) (w : World) (hC : Rdr W A c q B w) (hS : Src w q A W.length c (8 * p)) (hO : Own w B 5 v (u8s o)) (hT : TSeg W 1 p 0 qe l) (hol : (o ++ l).length ≤ 100000) :
    Calls Tryd.prog 35 #[.pointer (some ⟨q, 0, none⟩), v, mp] w (SegOut W A c q B qe (o ++ l) v w) := by
  obtain ⟨i3, hi3, hz30, hz31, hz32⟩ := info_of info3
  obtain ⟨i5, gi, gz0, gz1, gz2⟩ := info_of info5
  obtain ⟨TA, hTA, hTA'⟩ := tabIs tab51 40 (by decide)
  obtain ⟨TB, hTB, hTB'⟩ := tabIs tab52 27 (by decide)
  have HTA := hid hTA'
  have ETA := hid hTA
  have HTB := hid hTB'
  have ETB := hid hTB
  clear hTA' hTB' hTA hTB
  have hvb := fun k (hk : v.ownBlock = some k) => (hO.lt k hk).2
  obtain ⟨N, hN⟩ : ∃ N, N = W.length := ⟨_, rfl⟩
  rw [← hN] at hS
  have HN := hid hN
  have hNl : N ≤ 4000 := by rw [hN]; exact hC.n
  obtain ⟨OL, hOL⟩ : ∃ OL, OL = o ++ l := ⟨_, rfl⟩
  rw [← hOL] at hol ⊢
  have HOL := hid hOL.symm
  have hqb := hC.qb
  have hbw := hC.bs
  have HC := hid hC
  have HS := hid hS
  have HO := hid hO
  have HT := hid hT
  have hmk := fun V => run_make (P := Tryd.prog) V 82 3 i3 (.int .i64 0) Tryd.underlying82 hi3 hz30 .i64 .i64 3 3 (by omega) (by omega) (by rw [hz32]; omega) (by omega)
  simp only [hz31] at hmk
  obtain ⟨g, hg⟩ : ∃ g, g = w.heap.size := ⟨_, rfl⟩
  have HX0 := hid (show Arr (w.alloc (.cells (madeCells #[.int .i64 0] 3) 3)) g 3 (ints [0, 0, 0]) from by rw [hg]; exact Arr.made w 3 (.int .i64 0) 3)
  have HKP := hid (show Kp B q w (w.alloc (.cells (madeCells #[.int .i64 0] 3) 3)) from (Kp.refl B q w).alloc hbw _)
  have HF0 := hid (show Fr q v w v (w.alloc (.cells (madeCells #[.int .i64 0] 3) 3)) from (Fr.refl q v w).alloc _)
  have hg0 : g < (w.alloc (.cells (madeCells #[.int .i64 0] 3) 3)).heap.size := by rw [hg]; simp
  have HVB := hid (fun (e : v.ownBlock = some g) => show False from by have := hvb g e; omega)
  have HS0 := hid (HS.out.alloc (.cells (madeCells #[.int .i64 0] 3) 3))
  have HO0 := hid (HO.out.alloc (.cells (madeCells #[.int .i64 0] 3) 3))
  have hBg : B ≤ g := by omega
  clear hN hC hS hO hT hOL hvb HS HO
  go_enter Tryd.func35, Tryd.ntmps35
  go_wp2_with fail
  rw [← hg]
  have HG := hid hg
  clear hg

  go_loopg [1, 8, 10] (N - p) (fun gk ov us sv wr => ∃ (p2 sh : Nat) (o2 l2 : List Nat) (x : List Nat), gk = N - p2 ∧ us = .bool false ∧ sv = .int .i64 (sh : Nat) ∧ x.length = 3 ∧ Hid (TSeg W 1 p2 sh qe l2) ∧ Hid (o2 ++ l2 = OL) ∧ Hid (Src wr q A N c (8 * p2)) ∧ Hid (Own wr B 5 ov (u8s o2)) ∧ Hid (Arr wr g 3 (ints x)) ∧ Hid (Kp B q w wr) ∧ Hid (ov.ownBlock = some g → False) ∧ Hid (Fr q v w ov wr) ∧ g < wr.heap.size)
  case atStart => exact ⟨p, 0, o, l, [0, 0, 0], rfl, rfl, rfl, rfl, HT, HOL, HS0, HO0, HX0, HKP, HVB, HF0, hg0⟩
  case round =>
    clear HT HOL HS0 HO0 HX0 HKP HVB HF0 hg0
    obtain ⟨p2, sh, o2, l2, x, rfl, rfl, rfl, hx3, HT, HOL, HS, HO, HX, HK, HV, HF, hgs⟩ := hrel
    have hbr := Nat.le_trans hbw HK.out.size
    have HCr := hid (HC.out.kp HK.out)
    have hol2 : o2.length ≤ 100000 := by have h := HOL.out; rw [← h, List.length_append] at hol; omega
    rcases HT.out.inv with ⟨hp9, hw9, hq9, hl9⟩ | ⟨x0, x1, x2, l3, hp9, hw8, hw9, hok, hT9, hl9⟩
    case inl =>
      subst hq9 hl9
      rw [← HN.out] at hp9
      have HR := hid (fun V (hS : Src V q A N c (8 * p2)) (hR : Rd V A N (u8s W)) => hw9 ▸ read8M q A N c p2 W V hS hNl hR HC.out.lt (fun a ha => (HC.out.ab a ha).2) (by omega))
      have HAV := hid (fun V (hS : Src V q A N c (8 * p2)) => available q A N c (8 * p2) V hS (by omega) (by omega))
      have HRD := hid (show Rd wr A N (u8s W) from by rw [HN.out]; exact HCr.out.rd)
      obtain ⟨D, hD⟩ : ∃ D, D = 8 * N - 8 * p2 := ⟨_, rfl⟩
      have hD8 : (8 : Int) < (D : Int) := by omega
      have hD9 : ((D : Int) == 8) = false := by simp; omega
      rw [← hD] at HAV
      have hoe := HOL.out
      rw [List.append_nil] at hoe
      have HOE := hid hoe
      clear hD hw9 hoe HT HOL
      go_wp2_with (first | (go_at_call 33; ((with_reducible refine (HAV.out _ (HS.out.drewN _)).mono ?_); rintro e w1 ⟨rfl, k1, rfl⟩)) | (go_at_call 33; ((with_reducible refine (HAV.out _ HS.out).mono ?_); rintro e w1 ⟨rfl, k1, rfl⟩)) | (go_at_call 47; ((with_reducible refine (HR.out _ (HS.out.drewN _) (HRD.out.drewN _)).mono ?_); rintro e w9 ⟨rfl, hS9, hg9⟩)))
      go_ret2
      refine ⟨_, rfl, ?_, ?_, ?_, (HF.out.drewN _).srcG hg9⟩
      · rw [← HN.out]; exact hS9
      · rw [← HOE.out]; exact Own.src (HO.out.drewN _) hg9 hqb
      · exact (HK.out.drewN _).src hbr hg9

    case inr =>
      obtain ⟨hx0, hx1, hx2⟩ := three_of 1 sh x0 x1 x2 hok
      rw [← HN.out] at hp9
      obtain ⟨b1, hb1⟩ : ∃ b1, b1 = (1600 * x0 + 40 * x1 + x2 + 1) / 256 := ⟨_, rfl⟩
      obtain ⟨b2, hb2⟩ : ∃ b2, b2 = (1600 * x0 + 40 * x1 + x2 + 1) % 256 := ⟨_, rfl⟩
      have hb254 : ((b1 : Int) == 254) = false := by simp; omega
      rw [← hb1] at hw8
      rw [← hb2] at hw9
      have HR := hid (fun V (hS : Src V q A N c (8 * p2)) (hR : Rd V A N (u8s W)) => hw8 ▸ read8M q A N c p2 W V hS hNl hR HC.out.lt (fun a ha => (HC.out.ab a ha).2) (by omega))
      have HR2 := hid (fun V (hS : Src V q A N c (8 * (p2 + 1))) (hR : Rd V A N (u8s W)) => hw9 ▸ read8M q A N c (p2 + 1) W V hS hNl hR HC.out.lt (fun a ha => (HC.out.ab a ha).2) (by omega))
      have HAV := hid (fun V (hS : Src V q A N c (8 * p2)) => available q A N c (8 * p2) V hS (by omega) (by omega))
      have HRD := hid (show Rd wr A N (u8s W) from by rw [HN.out]; exact HCr.out.rd)
      have HAN := hid (fun a (ha : A = some a) => show some a.block ≠ some q from fun e => (HC.out.ab a ha).2 (by injection e))
      obtain ⟨D, hD⟩ : ∃ D, D = 8 * N - 8 * p2 := ⟨_, rfl⟩
      have hD8 : (8 : Int) < (D : Int) := by omega
      have hD9 : ((D : Int) == 8) = false := by simp; omega
      rw [← hD] at HAV
      obtain ⟨z0, z1, z2, rfl⟩ : ∃ z0 z1 z2, x = [z0, z1, z2] := by
        match x, hx3 with
        | [z0, z1, z2], _ => exact ⟨z0, z1, z2, rfl⟩
      have HTW := hid (fun V (hA : Arr V g 3 (ints [z0, z1, z2])) => show Calls Tryd.prog 50 #[.int .i64 (b1 : Nat), .int .i64 (b2 : Nat), .slice (some ⟨g, 0, none⟩) 3 3] V _ from hb1 ▸ hb2 ▸ twoM x0 x1 x2 hx0 hx1 hx2 g _ _ _ V hA)
      have hqg : q ≠ g := by omega
      have HGQ := hid (show some g ≠ some q from fun e => hqg (by injection e with e; exact e.symm))
      have HQG := hid (show some q ≠ some g from fun e => hqg (by injection e))
      have HOK := hid hok
      have HT9 := hid hT9
      have HL9 := hid hl9
      clear hD hb1 hb2 hw8 hw9 HT hqg hok hT9 hl9 hx3
      go_wp2_with (first | (go_at_call 33; ((with_reducible refine (HAV.out _ (HS.out.drewN _)).mono ?_); rintro e w1 ⟨rfl, k1, rfl⟩)) | (go_at_call 33; ((with_reducible refine (HAV.out _ HS.out).mono ?_); rintro e w1 ⟨rfl, k1, rfl⟩)) | (go_at_call 47; ((with_reducible refine (HR.out _ (HS.out.drewN _) (HRD.out.drewN _)).mono ?_); rintro e w9 ⟨rfl, hS9, hg9⟩)) | (go_at_call 47; ((with_reducible refine (HR2.out _ hS9 ((HRD.out.drewN _).grown hg9 HAN.out)).mono ?_); rintro e w8 ⟨rfl, hS8, hg8⟩)) | (go_at_call 50; ((with_reducible refine (HTW.out _ (((HX.out.drewN _).grown hg9 HGQ.out).grown hg8 HGQ.out)).mono ?_); rintro e w7 ⟨rfl, hX7, hg7⟩)))
      have hb9 := Nat.le_trans hbr hg9.size
      have hb8 := Nat.le_trans hb9 hg8.size
      have HO7 := hid ((((HO.out.drewN _).src hg9 hqb).src hg8 hqb).keep hg7 (.inr (fun e => HV.out e)))
      have HS7 := hid (show Src _ q A N c (8 * (p2 + 2)) from hS8.own hg7 HQG.out)
      have HK7 := hid ((((HK.out.drewN _).src hbr hg9).src hb9 hg8).own hb8 hg7 (fun j hj => by injection hj with hj; omega))
      have HX7 := hid hX7
      have HF7 := hid ((((HF.out.drewN _).srcG hg9).srcG hg8).newG hg7 (by have := HG.out; omega))
      have hg77 : g < w7.heap.size := hX7.lt
      clear hS8 hg8 hS9 hg9 hX7 hg7 HR HR2 HAV HRD HTW HS HO HX HK HF hb254 hb9 hb8
      go_wp2_with fail
      go_loopg [1, 8, 10, 15] 3 (fun gk ov us sv iv wr => ∃ (i sh2 : Nat) (out : List Nat), i ≤ 3 ∧ gk = 3 - i ∧ iv = .int .i64 (i : Nat) ∧ us = .bool false ∧ sv = .int .i64 (sh2 : Nat) ∧ out.length ≤ i ∧ Hid (vRun 1 (sh, []) ([x0, x1, x2].take i) = (sh2, out)) ∧ Hid (vAllOk 1 sh2 ([x0, x1, x2].drop i) = true) ∧ Hid (Own wr B 5 ov (u8s (o2 ++ out))) ∧ Hid (Src wr q A N c (8 * (p2 + 2))) ∧ Hid (Arr wr g 3 (ints [x0, x1, x2])) ∧ Hid (Kp B q w wr) ∧ Hid (ov.ownBlock = some g → False) ∧ Hid (Fr q v w ov wr) ∧ g < wr.heap.size)
      case atStart => exact ⟨0, sh, [], by omega, rfl, rfl, rfl, rfl, by simp, hid rfl, HOK, hid (by rw [List.append_nil]; exact HO7.out), HS7, HX7, HK7, HV, HF7, hg77⟩
      case round =>
        clear HO7 HS7 HX7 HK7 HV HF7 hg77 HOK hgs hbr HCr
        obtain ⟨i, sh2, out, hi3, rfl, rfl, rfl, rfl, hou, HVR, HOK, HO, HS, HX, HK, HV, HF, hgs⟩ := hrel
        have hbr := Nat.le_trans hbw HK.out.size
        by_cases hlt : i < 3
        case neg =>
          obtain rfl : i = 3 := by omega
          have hr9 := HVR.out
          rw [show [x0, x1, x2].take 3 = [x0, x1, x2] from rfl] at hr9
          have HT9' := hid (show TSeg W 1 (p2 + 2) sh2 qe l3 from by have := HT9.out; rw [hr9] at this; exact this)
          have HOL' := hid (show (o2 ++ out) ++ l3 = OL from by rw [← HOL.out, HL9.out, hr9, List.append_assoc])
          clear hr9 HT9 HL9 HOL HVR HOK
          go_wp2_with fail
          go_roundg (N - (p2 + 2))
          case measure => omega
          case rel => exact ⟨p2 + 2, sh2, o2 ++ out, l3, [x0, x1, x2], rfl, rfl, rfl, rfl, HT9', HOL', HS, HO, HX, HK, HV, HF, hgs⟩
        case pos =>
          have hlt' : (i : Int) < 3 := by omega
          have c0 := HX.out.cell? i
          rw [three_at x0 x1 x2 i hlt] at c0
          have hok := HOK.out
          rw [ok_drop 1 sh2 [x0, x1, x2] i hlt, Bool.and_eq_true] at hok
          have HVR2 := hid (run_take 1 sh [x0, x1, x2] i hlt sh2 out HVR.out)
          have HOK2 := hid hok.2
          have hvo := hok.1
          generalize [x0, x1, x2].getD i 0 = v at *
          have hol3 : (u8s (o2 ++ out)).length = o2.length + out.length := by rw [u8s_len, List.length_append]
          have m1 := hid (show (u8s (o2 ++ out)).length + 1 ≤ maxLen by rw [hol3]; simp [maxLen]; omega)
          have m2 := hid (show ((u8s (o2 ++ out)).length + 1) * 1 ≤ 140737488355328 by rw [hol3]; omega)
          have HBR := hid hbr
          clear hok HVR HOK hol3

          have hv40 : v < 40 := by simp only [vOk, Bool.and_eq_true, decide_eq_true_eq] at hvo; exact hvo.1
          have hcs : sh2 = 0 ∨ sh2 = 1 ∨ (sh2 = 2 ∧ v < 27) ∨ (sh2 = 3 ∧ v < 32) := by
            simp only [vOk, Bool.and_eq_true, Bool.or_eq_true, decide_eq_true_eq, beq_iff_eq] at hvo
            rcases hvo.2 with ((((h | h) | h) | h) | h)
            · omega
            · exact .inl h
            · exact .inr (.inl h)
            · exact .inr (.inr (.inl h))
            · exact .inr (.inr (.inr h))
          clear hvo
          rcases hcs with rfl | rfl | ⟨rfl, hv27⟩ | ⟨rfl, hv32⟩
          · by_cases hv3 : v < 3
            case pos =>
              have hv3' : (v : Int) < 3 := by omega
              have HVR3 := hid (show vRun 1 (sh, []) ([x0, x1, x2].take (i + 1)) = (v + 1, out) from by have h := HVR2.out; rw [vStep, if_neg (by decide), if_pos rfl, if_pos hv3] at h; simpa using h)
              have HOK3 := hid (show vAllOk 1 (v + 1) ([x0, x1, x2].drop (i + 1)) = true from by have h := HOK2.out; rw [vStep, if_neg (by decide), if_pos rfl, if_pos hv3] at h; exact h)
              clear HVR2 HOK2
              go_wp2_with fail
              go_roundg (3 - (i + 1))
              case measure => omega
              case rel => exact ⟨i + 1, v + 1, out, by omega, rfl, by go_num, rfl, by go_num, by omega, HVR3, HOK3, HO, HS, HX, HK, HV, HF, hgs⟩
            case neg =>
              have hv3' : ¬ (v : Int) < 3 := by omega
              have HVR3 := hid (show vRun 1 (sh, []) ([x0, x1, x2].take (i + 1)) = (0, out ++ [(basL 1).getD v 0]) from by have h := HVR2.out; rw [vStep, if_neg (by decide), if_pos rfl, if_neg hv3] at h; exact h)
              have HOK3 := hid (show vAllOk 1 0 ([x0, x1, x2].drop (i + 1)) = true from by have h := HOK2.out; rw [vStep, if_neg (by decide), if_pos rfl, if_neg hv3] at h; exact h)
              clear HVR2 HOK2
              have hc1 := tab_cell wr (basL 1) v (by rw [show (basL 1).length = 40 from by decide]; omega) TA ETA.out (.cells TA 5)
              have htn : (v : Int) < 40 := by omega
              generalize (basL 1).getD v 0 = b at *
              go_wp2_with (first | (go_at_call 51; ((with_reducible refine (HTA.out _).mono ?_); rintro e w9 ⟨rfl, rfl⟩)) | (at_builtin; refine wpList_app _ rfl _ _ 28 rfl B 5 i5 _ 1 Tryd.underlying28 gi gz0 gz1 gz2 rfl _ (u8s (o2 ++ out)) rfl (by repeat (first | exact HO.out | with_reducible apply Own.alloc)) _ 1 1 [.int .u8 ((b : Nat))] rfl (Rd.one' _ _ _ _ (by first | rfl | (simp; done))) (by intro u hu; rw [List.mem_singleton.1 hu]; rfl) m1.out m2.out (Nat.le_trans HBR.out (by simp <;> omega)) ?_))
              intro v5 w5 hO5 hg5 hown5
              have HO5 := hid (show Own w5 B 5 v5 (u8s (o2 ++ (out ++ [b]))) from by rw [← List.append_assoc]; unfold u8s at hO5 ⊢; rw [List.map_append]; exact hO5)
              have HK5 := hid ((((HK.out.alloc (show B ≤ (wr).heap.size from Nat.le_trans hbr (by simp <;> omega)) (.cells TA 5)).alloc (show B ≤ ((wr.alloc (.cells TA 5))).heap.size from Nat.le_trans hbr (by simp <;> omega)) (.cells TA 5)).alloc (show B ≤ (((wr.alloc (.cells TA 5)).alloc (.cells TA 5))).heap.size from Nat.le_trans hbr (by simp <;> omega)) (.cells #[.int .u8 ((b : Nat))] 5)).own (show B ≤ (((wr.alloc (.cells TA 5)).alloc (.cells TA 5)).alloc (.cells #[.int .u8 ((b : Nat))] 5)).heap.size from Nat.le_trans hbr (by simp <;> omega)) hg5 (fun j hj => (HO.out.lt j hj).1))
              have HS5 := hid ((((HS.out.alloc (.cells TA 5)).alloc (.cells TA 5)).alloc (.cells #[.int .u8 ((b : Nat))] 5)).own hg5 (fun e => by have := (HO.out.lt q e.symm).1; omega))
              have HX5 := hid ((((HX.out.alloc (.cells TA 5)).alloc (.cells TA 5)).alloc (.cells #[.int .u8 ((b : Nat))] 5)).grown hg5 (fun e => HV.out e.symm))
              have HV5 := hid (fun (e : v5.ownBlock = some g) => show False from by
                rcases hown5 with h | h
                · exact HV.out (h ▸ e)
                · rw [h] at e; injection e with e; first | omega | (simp at e; omega))
              have HF5 := hid ((((HF.out.alloc (.cells TA 5)).alloc (.cells TA 5)).alloc (.cells #[.int .u8 ((b : Nat))] 5)).trans (Fr.app q hg5 (by simpa using hown5)))
              have hg55 : g < w5.heap.size := Nat.lt_of_lt_of_le hgs (Nat.le_trans (by simp <;> omega) hg5.size)
              clear hO5 hg5 hown5 HO HS HX HK HV HF m1 m2
              go_wp2_with fail
              go_roundg (3 - (i + 1))
              case measure => omega
              case rel => exact ⟨i + 1, 0, out ++ [b], by omega, rfl, by go_num, rfl, rfl, by rw [List.length_append, List.length_singleton]; omega, HVR3, HOK3, HO5, HS5, HX5, HK5, HV5, HF5, hg55⟩
          · have HVR3 := hid (show vRun 1 (sh, []) ([x0, x1, x2].take (i + 1)) = (0, out ++ [v]) from HVR2.out)
            have HOK3 := hid (show vAllOk 1 0 ([x0, x1, x2].drop (i + 1)) = true from HOK2.out)
            clear HVR2 HOK2
            have e1 : IntKind.u8.wrap (v : Int) = (v : Nat) := by rw [u8wrap]; omega
            go_wp2_with (at_builtin; refine wpList_app _ rfl _ _ 28 rfl B 5 i5 _ 1 Tryd.underlying28 gi gz0 gz1 gz2 rfl _ (u8s (o2 ++ out)) rfl (by repeat (first | exact HO.out | with_reducible apply Own.alloc)) _ 1 1 [.int .u8 ((v : Nat))] rfl (Rd.one' _ _ _ _ (by first | rfl | (simp; done))) (by intro u hu; rw [List.mem_singleton.1 hu]; rfl) m1.out m2.out (Nat.le_trans HBR.out (by simp <;> omega)) ?_)
            intro v5 w5 hO5 hg5 hown5
            have HO5 := hid (show Own w5 B 5 v5 (u8s (o2 ++ (out ++ [v]))) from by rw [← List.append_assoc]; unfold u8s at hO5 ⊢; rw [List.map_append]; exact hO5)
            have HK5 := hid ((HK.out.alloc (show B ≤ (wr).heap.size from Nat.le_trans hbr (by simp <;> omega)) (.cells #[.int .u8 ((v : Nat))] 5)).own (show B ≤ (wr.alloc (.cells #[.int .u8 ((v : Nat))] 5)).heap.size from Nat.le_trans hbr (by simp <;> omega)) hg5 (fun j hj => (HO.out.lt j hj).1))
            have HS5 := hid ((HS.out.alloc (.cells #[.int .u8 ((v : Nat))] 5)).own hg5 (fun e => by have := (HO.out.lt q e.symm).1; omega))
            have HX5 := hid ((HX.out.alloc (.cells #[.int .u8 ((v : Nat))] 5)).grown hg5 (fun e => HV.out e.symm))
            have HV5 := hid (fun (e : v5.ownBlock = some g) => show False from by
              rcases hown5 with h | h
              · exact HV.out (h ▸ e)
              · rw [h] at e; injection e with e; first | omega | (simp at e; omega))
            have HF5 := hid ((HF.out.alloc (.cells #[.int .u8 ((v : Nat))] 5)).trans (Fr.app q hg5 (by simpa using hown5)))
            have hg55 : g < w5.heap.size := Nat.lt_of_lt_of_le hgs (Nat.le_trans (by simp <;> omega) hg5.size)
            clear hO5 hg5 hown5 HO HS HX HK HV HF m1 m2
            go_wp2_with fail
            go_roundg (3 - (i + 1))
            case measure => omega
            case rel => exact ⟨i + 1, 0, out ++ [v], by omega, rfl, by go_num, rfl, rfl, by rw [List.length_append, List.length_singleton]; omega, HVR3, HOK3, HO5, HS5, HX5, HK5, HV5, HF5, hg55⟩
          · have HVR3 := hid (show vRun 1 (sh, []) ([x0, x1, x2].take (i + 1)) = (0, out ++ [set2L.getD v 0]) from HVR2.out)
            have HOK3 := hid (show vAllOk 1 0 ([x0, x1, x2].drop (i + 1)) = true from HOK2.out)
            clear HVR2 HOK2
            have hc1 := tab_cell wr (set2L) v (by rw [show set2L.length = 27 from by decide]; omega) TB ETB.out (.cells TB 5)
            have htn : (v : Int) < 27 := by omega
            generalize (set2L).getD v 0 = b at *
            go_wp2_with (first | (go_at_call 52; ((with_reducible refine (HTB.out _).mono ?_); rintro e w9 ⟨rfl, rfl⟩)) | (at_builtin; refine wpList_app _ rfl _ _ 28 rfl B 5 i5 _ 1 Tryd.underlying28 gi gz0 gz1 gz2 rfl _ (u8s (o2 ++ out)) rfl (by repeat (first | exact HO.out | with_reducible apply Own.alloc)) _ 1 1 [.int .u8 ((b : Nat))] rfl (Rd.one' _ _ _ _ (by first | rfl | (simp; done))) (by intro u hu; rw [List.mem_singleton.1 hu]; rfl) m1.out m2.out (Nat.le_trans HBR.out (by simp <;> omega)) ?_))
            intro v5 w5 hO5 hg5 hown5
            have HO5 := hid (show Own w5 B 5 v5 (u8s (o2 ++ (out ++ [b]))) from by rw [← List.append_assoc]; unfold u8s at hO5 ⊢; rw [List.map_append]; exact hO5)
            have HK5 := hid ((((HK.out.alloc (show B ≤ (wr).heap.size from Nat.le_trans hbr (by simp <;> omega)) (.cells TB 5)).alloc (show B ≤ ((wr.alloc (.cells TB 5))).heap.size from Nat.le_trans hbr (by simp <;> omega)) (.cells TB 5)).alloc (show B ≤ (((wr.alloc (.cells TB 5)).alloc (.cells TB 5))).heap.size from Nat.le_trans hbr (by simp <;> omega)) (.cells #[.int .u8 ((b : Nat))] 5)).own (show B ≤ (((wr.alloc (.cells TB 5)).alloc (.cells TB 5)).alloc (.cells #[.int .u8 ((b : Nat))] 5)).heap.size from Nat.le_trans hbr (by simp <;> omega)) hg5 (fun j hj => (HO.out.lt j hj).1))
            have HS5 := hid ((((HS.out.alloc (.cells TB 5)).alloc (.cells TB 5)).alloc (.cells #[.int .u8 ((b : Nat))] 5)).own hg5 (fun e => by have := (HO.out.lt q e.symm).1; omega))
            have HX5 := hid ((((HX.out.alloc (.cells TB 5)).alloc (.cells TB 5)).alloc (.cells #[.int .u8 ((b : Nat))] 5)).grown hg5 (fun e => HV.out e.symm))
            have HV5 := hid (fun (e : v5.ownBlock = some g) => show False from by
              rcases hown5 with h | h
              · exact HV.out (h ▸ e)
              · rw [h] at e; injection e with e; first | omega | (simp at e; omega))
            have HF5 := hid ((((HF.out.alloc (.cells TB 5)).alloc (.cells TB 5)).alloc (.cells #[.int .u8 ((b : Nat))] 5)).trans (Fr.app q hg5 (by simpa using hown5)))
            have hg55 : g < w5.heap.size := Nat.lt_of_lt_of_le hgs (Nat.le_trans (by simp <;> omega) hg5.size)
            clear hO5 hg5 hown5 HO HS HX HK HV HF m1 m2
            go_wp2_with fail
            go_roundg (3 - (i + 1))
            case measure => omega
            case rel => exact ⟨i + 1, 0, out ++ [b], by omega, rfl, by go_num, rfl, rfl, by rw [List.length_append, List.length_singleton]; omega, HVR3, HOK3, HO5, HS5, HX5, HK5, HV5, HF5, hg55⟩
          · have HVR3 := hid (show vRun 1 (sh, []) ([x0, x1, x2].take (i + 1)) = (0, out ++ [v + 96]) from HVR2.out)
            have HOK3 := hid (show vAllOk 1 0 ([x0, x1, x2].drop (i + 1)) = true from HOK2.out)
            clear HVR2 HOK2
            obtain ⟨b, hb⟩ : ∃ b, b = v + 96 := ⟨_, rfl⟩
            rw [← hb] at HVR3
            have e1 : IntKind.u8.wrap ((v : Int) + 96) = (b : Nat) := by rw [u8wrap]; omega
            clear hb
            go_wp2_with (at_builtin; refine wpList_app _ rfl _ _ 28 rfl B 5 i5 _ 1 Tryd.underlying28 gi gz0 gz1 gz2 rfl _ (u8s (o2 ++ out)) rfl (by repeat (first | exact HO.out | with_reducible apply Own.alloc)) _ 1 1 [.int .u8 ((b : Nat))] rfl (Rd.one' _ _ _ _ (by first | rfl | (simp; done))) (by intro u hu; rw [List.mem_singleton.1 hu]; rfl) m1.out m2.out (Nat.le_trans HBR.out (by simp <;> omega)) ?_)
            intro v5 w5 hO5 hg5 hown5
            have HO5 := hid (show Own w5 B 5 v5 (u8s (o2 ++ (out ++ [b]))) from by rw [← List.append_assoc]; unfold u8s at hO5 ⊢; rw [List.map_append]; exact hO5)
            have HK5 := hid ((HK.out.alloc (show B ≤ (wr).heap.size from Nat.le_trans hbr (by simp <;> omega)) (.cells #[.int .u8 ((b : Nat))] 5)).own (show B ≤ (wr.alloc (.cells #[.int .u8 ((b : Nat))] 5)).heap.size from Nat.le_trans hbr (by simp <;> omega)) hg5 (fun j hj => (HO.out.lt j hj).1))
            have HS5 := hid ((HS.out.alloc (.cells #[.int .u8 ((b : Nat))] 5)).own hg5 (fun e => by have := (HO.out.lt q e.symm).1; omega))
            have HX5 := hid ((HX.out.alloc (.cells #[.int .u8 ((b : Nat))] 5)).grown hg5 (fun e => HV.out e.symm))
            have HV5 := hid (fun (e : v5.ownBlock = some g) => show False from by
              rcases hown5 with h | h
              · exact HV.out (h ▸ e)
              · rw [h] at e; injection e with e; first | omega | (simp at e; omega))
            have HF5 := hid ((HF.out.alloc (.cells #[.int .u8 ((b : Nat))] 5)).trans (Fr.app q hg5 (by simpa using hown5)))
            have hg55 : g < w5.heap.size := Nat.lt_of_lt_of_le hgs (Nat.le_trans (by simp <;> omega) hg5.size)
            clear hO5 hg5 hown5 HO HS HX HK HV HF m1 m2
            go_wp2_with fail
            go_roundg (3 - (i + 1))
            case measure => omega
            case rel => exact ⟨i + 1, 0, out ++ [b], by omega, rfl, by go_num, rfl, rfl, by rw [List.length_append, List.length_singleton]; omega, HVR3, HOK3, HO5, HS5, HX5, HK5, HV5, HF5, hg55⟩
end Go.Proofs.YtfmjkflihnfneaaDoor
