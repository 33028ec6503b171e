/- correctBits on words of a code. -/
import Derived.Test.YtliephokeafllaaGreatDoorAzX0
import Derived.Deep.DrawnRows
import Derived.Deep.LoopGhost
import Derived.Deep.CutRange
namespace Go.Proofs.YtliephokeafllaaGreatDoor
open Go.RowKit
set_option linter.unusedVariables false

set_option maxRecDepth 100000 in
set_option maxHeartbeats 8000000 in
theorem correctM (c : Bool) (L : Nat) (hL0 : 1 ≤ L) (hL : L ≤ 32) (d dd nb al r wd n : Nat) (pv : Value) (A : Option Addr) (cp : Nat) (ws : List Nat) (b : List Bool) (w : World)
    (hd : w.cell? ⟨d, 0, none⟩ = some (.pointer (some ⟨dd, 0, none⟩))) (hdw : d < w.heap.size) (hdd : Arr w dd 82 [pv, .bool c, .int .i64 (nb : Nat), .int .i64 (L : Nat)])
    (hR : Rd w A n (b.map Value.bool)) (hwd : wd = azW L) (hb : b = layBits r wd ws) (hwl : ws.length = al) (hr : r < wd) (hn : n = r + wd * al) (hnb : 1 ≤ nb) (hal : nb ≤ al) (hal2 : al ≤ 2000) (hpw : al < 2 ^ wd)
    (hC : Rs.CodeL (azP wd) wd 1 (al - nb) al ws) (hin : ∀ k, k < nb → ws.getD k 0 ≠ 0 ∧ ws.getD k 0 ≠ 2 ^ wd - 1) :
    Calls Tryz.prog 40 #[.pointer (some ⟨d, 0, none⟩), .slice A n cp] w (CorOut (unst wd (ws.take nb)) (100 * (al - nb) / al) w) := by
  have HR := hid hR
  have HDD := hid hdd
  have HB := hid hb
  have HC := hid hC
  have HIN := hid hin
  have HWL := hid hwl
  have HWD := hid hwd
  have hnl := nbLayersM dd nb L c pv w hdd
  have h6 := pkg6 w
  have h8 := pkg8 w
  have h10 := pkg10 w
  have h12 := pkg12 w
  have HN := hid hn
  have hb0 : (0 : Nat) < wd := by omega
  have q1 : (n : Int) / (wd : Int) = (al : Int) := by
    have h1 : n / wd = al := by rw [hn, Nat.add_mul_div_left _ _ hb0, Nat.div_eq_of_lt hr, Nat.zero_add]
    rw [← h1]; exact (Int.natCast_ediv n wd).symm
  have q2 : (n : Int) % (wd : Int) = (r : Int) := by
    have h1 : n % wd = r := by rw [hn, Nat.add_mul_mod_self_left, Nat.mod_eq_of_lt hr]
    rw [← h1]; exact (Int.natCast_emod n wd).symm
  have Q1 := hid q1
  have Q2 := hid q2
  clear hR hdd hb hC hin hwl hwd hn q1 q2
  go_enter Tryz.func40, Tryz.ntmps40
  go_upto_if 31 with (refine hnl.mono ?_; rintro e w1 ⟨rfl, rfl⟩)
  go_cut [6, 7] from 31 to 47 (fun fv wv wx => ∃ g, fv = Rs.fieldPtr g ∧ wv = .int .i64 (wd : Nat) ∧ w.heap.size ≤ g ∧ Hid (Rs.IsField wx g (azP wd) wd 1) ∧ Hid (Below w.heap.size w wx))
  case first =>
    have hw := HWD.out
    by_cases h2 : L ≤ 2
    · have h2' : (L : Int) ≤ 2 := by omega
      have hw6 : wd = 6 := by rw [hw]; unfold azW; rw [if_pos h2]
      subst hw6
      clear hw h2 h8 h10 h12 hnl
      go_wp2_with fail
      refine h6.mono ?_
      rintro e w1 ⟨g, rfl, g1, g2, g3⟩
      have G2 := hid g2
      have G3 := hid g3
      clear g2 g3 h6
      go_wp2_with fail
      go_meet
      case rel => exact ⟨g, rfl, rfl, g1, G2, G3⟩
    · have h2' : ¬ (L : Int) ≤ 2 := by omega
      by_cases h8c : L ≤ 8
      · have h8' : (L : Int) ≤ 8 := by omega
        have hw8 : wd = 8 := by rw [hw]; unfold azW; rw [if_neg h2, if_pos h8c]
        subst hw8
        clear hw h2 h8c h6 h10 h12
        go_wp2_with fail
        refine hnl.mono ?_
        rintro e w1 ⟨rfl, rfl⟩
        go_wp2_with fail
        refine h8.mono ?_
        rintro e w1 ⟨g, rfl, g1, g2, g3⟩
        have G2 := hid g2
        have G3 := hid g3
        clear g2 g3 h8 hnl
        go_wp2_with fail
        go_meet
        case rel => exact ⟨g, rfl, rfl, g1, G2, G3⟩
      · have h8' : ¬ (L : Int) ≤ 8 := by omega
        by_cases h22 : L ≤ 22
        · have h22' : (L : Int) ≤ 22 := by omega
          have hw8 : wd = 10 := by rw [hw]; unfold azW; rw [if_neg h2, if_neg h8c, if_pos h22]
          subst hw8
          clear hw h2 h8c h22 h6 h8 h12
          go_wp2_with fail
          refine hnl.mono ?_
          rintro e w1 ⟨rfl, rfl⟩
          go_wp2_with fail
          refine hnl.mono ?_
          rintro e w1 ⟨rfl, rfl⟩
          go_wp2_with fail
          refine h10.mono ?_
          rintro e w1 ⟨g, rfl, g1, g2, g3⟩
          have G2 := hid g2
          have G3 := hid g3
          clear g2 g3 h10 hnl
          go_wp2_with fail
          go_meet
          case rel => exact ⟨g, rfl, rfl, g1, G2, G3⟩
        · have h22' : ¬ (L : Int) ≤ 22 := by omega
          have hw8 : wd = 12 := by rw [hw]; unfold azW; rw [if_neg h2, if_neg h8c, if_neg h22]
          subst hw8
          clear hw h2 h8c h22 h6 h8 h10
          go_wp2_with fail
          refine hnl.mono ?_
          rintro e w1 ⟨rfl, rfl⟩
          go_wp2_with fail
          refine hnl.mono ?_
          rintro e w1 ⟨rfl, rfl⟩
          go_wp2_with fail
          refine h12.mono ?_
          rintro e w1 ⟨g, rfl, g1, g2, g3⟩
          have G2 := hid g2
          have G3 := hid g3
          clear g2 g3 h12 hnl
          go_wp2_with fail
          go_meet
          case rel => exact ⟨g, rfl, rfl, g1, G2, G3⟩
  case rest =>
    clear h6 h8 h10 h12 hnl
    obtain ⟨g, rfl, rfl, hg, HFD, HB1⟩ := hcut
    obtain ⟨i3, hi3, hz0, hz1, hz2⟩ := info_parts Rs.info3
    have hd1 := (HB1.out.cell (p := ⟨d, 0, none⟩) hdw).trans hd
    have hbl := blocksM dd nb L c pv wc (HDD.out.below HB1.out HDD.out.lt)
    have q3 : (n : Int).tdiv (wd : Int) = (al : Int) := by rw [Int.tdiv_eq_ediv_of_nonneg (by omega)]; exact Q1.out
    have q4 : (n : Int).tmod (wd : Int) = (r : Int) := by rw [Int.tmod_eq_emod_of_nonneg (by omega)]; exact Q2.out
    have q5 : ((wd : Int) == 0) = false := by rw [beq_eq_false_iff_ne]; omega
    have q6 : ¬ (wd : Int) = 0 := by omega
    have q7 : ¬ (al : Int) < (nb : Int) := by omega
    have hmk := fun W => run_make (P := Tryz.prog) W 25 3 i3 (.int .i64 0) Tryz.underlying25 hi3 hz0 .i64 .i64 (al : Int) (al : Int) (by omega) (by omega) (by rw [hz2]; omega) (by omega)
    simp only [hz1] at hmk
    clear hd
    go_wp2_with fail
    refine hbl.mono ?_
    rintro e w1 ⟨rfl, rfl⟩
    go_wp2_with fail
    have hs0 := HB1.out.size
    have HA2 := hid (Arr.made wc 3 (.int .i64 0) al)
    have HB2 := hid (show Below w.heap.size w (wc.alloc (.cells (madeCells #[.int .i64 0] al) 3)) from HB1.out.alloc HB1.out.size _)
    have HFD2 := hid (HFD.out.below (show Below wc.heap.size wc (wc.alloc (.cells (madeCells #[.int .i64 0] al) 3)) from (Below.refl _ _).alloc (Nat.le_refl _) _))
    have HBC := hid (show Below wc.heap.size wc (wc.alloc (.cells (madeCells #[.int .i64 0] al) 3)) from (Below.refl _ _).alloc (Nat.le_refl _) _)
    have hwd12 : wd ≤ 12 := by rw [HWD.out]; unfold azW; split; omega; split; omega; split <;> omega
    have hmul : wd * al ≤ 12 * 2000 := Nat.mul_le_mul hwd12 hal2
    have hn3 : n ≤ 30000 := by rw [HN.out]; omega
    obtain ⟨P0, hP0⟩ : ∃ x, x = wc.heap.size := ⟨_, rfl⟩
    rw [← hP0] at HA2 hs0 HBC
    have HP0 := hid hP0
    rw [← hP0]
    generalize hw2 : wc.alloc (.cells (madeCells #[.int .i64 0] al) 3) = w2 at *
    have hP2 : P0 < w2.heap.size := HA2.out.lt
    clear hw2 hmk q3 q4 hd1 hbl hP0 hmul
    have hdn : decide (al < nb) = false := decide_eq_false (by omega)
    rw [hdn]
    clear hdn
    go_loopw [10, 12] (fun ov iv wr => ∃ k s : Nat, k ≤ al ∧ iv = .int .i64 (k : Nat) ∧ ov = .int .i64 (s : Nat) ∧ s ≤ 30000 ∧ Hid (s = r + wd * k) ∧ Hid (Arr wr P0 3 (Rs.ints (ws.take k ++ List.replicate (al - k) 0))) ∧ Hid (Below P0 wc wr)) (fun _ iv _ => al - (intOf iv).toNat)
    case atStart => exact ⟨0, r, by omega, rfl, rfl, by omega, hid (by simp), hid (by simpa [Rs.ints] using HA2.out), HBC⟩
    case round =>
      obtain ⟨k, s, hk, rfl, rfl, hs3, HS, HAX, HBX⟩ := hrel
      have HBW := hid (show Below w.heap.size w wr from HB1.out.trans (HBX.out.mono hs0))
      by_cases hlt : k < al
      · have hlt' : (k : Int) < (al : Int) := by omega
        have hk0 : (0 : Int) ≤ (k : Int) := by omega
        have hx := lay_code r wd ws k (by rw [HWL.out]; exact hlt) (Rs.getD_lt (by rw [HWD.out]; exact azGF L) HC.out.1 k)
        rw [← HB.out, ← HS.out] at hx
        have hsn : s + wd ≤ n := by
          rw [HS.out, HN.out]
          have := Nat.mul_le_mul_left wd (show k + 1 ≤ al from hlt)
          rw [Nat.mul_add] at this; omega
        have rc := readCodeM A n cp b s wd wr (HR.out.below HBW.out) (by omega) hsn hwd12
        rw [hx] at rc
        have hsum : IntKind.i64.wrap ((s : Int) + (wd : Int)) = (s : Int) + (wd : Int) := IntWalk.i64_in _ ⟨by omega, by omega⟩
        have hlen : (Rs.ints (ws.take k ++ List.replicate (al - k) 0)).length = al := by
          rw [Rs.ints_length, List.length_append, List.length_take, List.length_replicate, HWL.out]; omega
        obtain ⟨v0, hv0⟩ := HAX.out.has k (by rw [hlen]; exact hlt)
        have fz := HAX.out.frozen k
        have HSET := hid (show (Rs.ints (ws.take k ++ List.replicate (al - k) 0)).set k (.int .i64 (ws.getD k 0 : Nat)) = Rs.ints (ws.take (k + 1) ++ List.replicate (al - (k + 1)) 0) from by
          rw [← Rs.fill_set2 ws al al k HWL.out hlt (Nat.le_refl _)]
          simp [Rs.ints, List.map_set])
        have HS2 := hid (show s + wd = r + wd * (k + 1) from by rw [HS.out, Nat.mul_add]; omega)
        have hs4 : s + wd ≤ 30000 := by omega
        generalize ws.getD k 0 = x at *
        clear hx hlen hsn
        go_wp2_with fail
        refine rc.mono ?_
        rintro e w5 ⟨rfl, rfl⟩
        clear rc
        go_wp2_with fail
        have HAN := hid (show Arr (wr.setCell ⟨P0, k, none⟩ (.int .i64 (x : Nat))) P0 3 (Rs.ints (ws.take (k + 1) ++ List.replicate (al - (k + 1)) 0)) from by
          have := HAX.out.set k (.int .i64 (x : Nat))
          rwa [HSET.out] at this)
        have HBN := hid (show Below P0 wc (wr.setCell ⟨P0, k, none⟩ (.int .i64 (x : Nat))) from HBX.out.setCell (Nat.le_refl _) _)
        rw [show (s : Int) + (wd : Int) = ((s + wd : Nat) : Int) from by omega]
        go_roundw
        case rel => first | exact ⟨k + 1, s + wd, by omega, by go_num, by go_num, hs4, HS2, HAN, HBN⟩ | ((repeat apply Exists.intro); exact ⟨⟨k + 1, s + wd, by omega, rfl, rfl, hs4, HS2, HAN, HBN⟩, rfl⟩)
        case measure => simp [intOf]; omega
      · obtain rfl : k = al := by omega
        have hlt' : ¬ (k : Int) < (k : Int) := by omega
        have HA3 := hid (show Arr wr P0 3 (Rs.ints ws) from by have := HAX.out; rwa [Nat.sub_self, List.replicate_zero, List.append_nil, List.take_of_length_le (by rw [HWL.out]; exact Nat.le_refl _)] at this)
        have HFW := hid (HFD.out.below (by rw [← HP0.out]; exact HBX.out))
        have nd := Rs.newDec g wr
        clear HAX HS hs3
        go_wp2_with fail
        refine nd.mono ?_
        rintro e w5 ⟨D, rfl, hD1, hD2, hb5⟩
        have hk0 : (0 : Int) ≤ (k : Int) := by omega
        have hA5 := HA3.out.below hb5 HA3.out.lt
        have hsub : IntKind.i64.wrap ((k : Int) - (nb : Int)) = (k : Int) - (nb : Int) := IntWalk.i64_in _ ⟨by omega, by omega⟩
        have dz := Rs.decZero D g (azP wd) wd 1 k k (k - nb) (some ⟨P0, 0, none⟩) ws w5 (by rw [HWD.out]; exact azGF L) (Nat.le_refl _) (Rs.IsField.below HFW.out hb5) hD2 (by have := Rd.of_arr hA5; rwa [Rs.ints_length, HWL.out] at this) HWL.out (by omega) hal2 (Nat.le_refl _) HC.out.1 (by omega) (by omega) (fun i hi => by have := HC.out.2.2 i hi; rwa [Nat.add_comm 1 i] at this)
        rw [show ((k - nb : Nat) : Int) = (k : Int) - (nb : Int) from by omega] at dz
        have HA5 := hid hA5
        have HB5 := hid (show Below w.heap.size w w5 from HBW.out.trans (hb5.mono HBW.out.size))
        clear hD1 hD2 hb5 hA5 nd HFW HA3 HBX HBW
        go_wp2_with fail
        refine dz.mono ?_
        rintro e w6 ⟨rfl, hb6⟩
        have HA6 := hid (HA5.out.below hb6 HA5.out.lt)
        have HB6 := hid (show Below w.heap.size w w6 from HB5.out.trans (hb6.mono HB5.out.size))
        clear dz hb6 HA5 HB5
        go_wp2_with fail
        have hp6 : 2 ^ 6 ≤ 2 ^ wd := Nat.pow_le_pow_right (by omega) (by rw [HWD.out]; unfold azW; split; omega; split; omega; split <;> omega)
        have hp12 : 2 ^ wd ≤ 2 ^ 12 := Nat.pow_le_pow_right (by omega) hwd12
        obtain ⟨M, hM⟩ : ∃ M, M + 1 = 2 ^ wd := ⟨2 ^ wd - 1, by omega⟩
        have hM1 : 63 ≤ M := by omega
        have hM2 : M ≤ 4095 := by omega
        have hmask : wrap64 (wrap64 ((2 : Int) ^ wd) - 1) = (M : Int) := by
          have h1 : (2 : Int) ^ wd = (M : Int) + 1 := by
            have := congrArg (fun x : Nat => (x : Int)) hM
            simp only [Int.natCast_add, Int.natCast_pow] at this
            simpa using this.symm
          rw [h1]
          rw [IntWalk.wrap64_in ((M : Int) + 1) ⟨by omega, by omega⟩, IntWalk.wrap64_in _ ⟨by omega, by omega⟩]; omega
        rw [hmask]
        have HM := hid hM
        clear hmask hp6 hp12 hM
        go_loopw [16, 17] (fun cv iv wr => ∃ i s2 : Nat, i ≤ nb ∧ iv = .int .i64 (i : Nat) ∧ cv = .int .i64 (s2 : Nat) ∧ s2 ≤ i ∧ Hid (s2 = stC wd (ws.take i)) ∧ w6 = wr) (fun _ iv _ => nb - (intOf iv).toNat)
        case atStart => exact ⟨0, 0, by omega, rfl, rfl, Nat.le_refl _, hid rfl, rfl⟩
        case round =>
          obtain ⟨i, s2, hi, rfl, rfl, hs2, HST, rfl⟩ := hrel
          by_cases hli : i < nb
          · have hli' : (i : Int) < (nb : Int) := by omega
            have hi0 : (0 : Int) ≤ (i : Int) := by omega
            have hik : i < k := by omega
            have hgc : w6.cell? ⟨P0, i, none⟩ = some (.int .i64 (ws.getD i 0 : Nat)) := by
              have := HA6.out.cell? i
              rw [Rs.ints, List.getElem?_map, List.getElem?_eq_getElem (by rw [HWL.out]; exact hik)] at this
              simpa [List.getD, List.getElem?_eq_getElem (show i < ws.length by rw [HWL.out]; exact hik)] using this
            obtain ⟨n1, n2⟩ := HIN.out i hli
            have hST1 := stC_next wd ws i (by rw [HWL.out]; exact hik)
            rw [← HST.out] at hST1
            have HST1 := hid hST1
            rw [← HM.out] at n2
            have x0 : (((ws.getD i 0 : Nat) : Int) == 0) = false := by rw [beq_eq_false_iff_ne]; omega
            have x1 : (((ws.getD i 0 : Nat) : Int) == (M : Int)) = false := by rw [beq_eq_false_iff_ne]; omega
            have hwr : IntKind.i64.wrap ((M : Int) - 1) = (M : Int) - 1 := IntWalk.i64_in _ ⟨by omega, by omega⟩
            clear hST1
            by_cases z1 : ws.getD i 0 = 1
            · have HN2 := hid (show s2 + 1 = stC wd (ws.take (i + 1)) from by rw [HST1.out, if_pos (.inl z1)])
              have x2 : (((ws.getD i 0 : Nat) : Int) == 1) = true := by rw [beq_iff_eq]; omega
              clear HST1 z1 n1 n2
              generalize ws.getD i 0 = x at *
              go_wp2_with fail
              go_roundw
              case rel => first | exact ⟨i + 1, s2 + 1, by omega, by go_num, by go_num, by omega, HN2, by first | rfl | trivial⟩ | ((repeat apply Exists.intro); exact ⟨⟨i + 1, s2 + 1, by omega, rfl, rfl, by omega, HN2, by first | rfl | trivial⟩, rfl⟩)
              case measure => first | (simp [intOf]; done) | (simp [intOf]; omega)
            · have x2 : (((ws.getD i 0 : Nat) : Int) == 1) = false := by rw [beq_eq_false_iff_ne]; omega
              by_cases z2 : ws.getD i 0 = 2 ^ wd - 2
              · have HN2 := hid (show s2 + 1 = stC wd (ws.take (i + 1)) from by rw [HST1.out, if_pos (.inr z2)])
                have x3 : (((ws.getD i 0 : Nat) : Int) == (M : Int) - 1) = true := by
                  rw [beq_iff_eq]; have := HM.out; omega
                clear HST1 z1 z2 n1 n2
                generalize ws.getD i 0 = x at *
                go_wp2_with fail
                go_roundw
                case rel => first | exact ⟨i + 1, s2 + 1, by omega, by go_num, by go_num, by omega, HN2, by first | rfl | trivial⟩ | ((repeat apply Exists.intro); exact ⟨⟨i + 1, s2 + 1, by omega, rfl, rfl, by omega, HN2, by first | rfl | trivial⟩, rfl⟩)
                case measure => first | (simp [intOf]; done) | (simp [intOf]; omega)
              · have HN2 := hid (show s2 = stC wd (ws.take (i + 1)) from by rw [HST1.out, if_neg (by rintro (h | h); exact z1 h; exact z2 h), Nat.add_zero])
                have x3 : (((ws.getD i 0 : Nat) : Int) == (M : Int) - 1) = false := by
                  rw [beq_eq_false_iff_ne]; have := HM.out; omega
                clear HST1 z1 z2 n1 n2
                generalize ws.getD i 0 = x at *
                go_wp2_with fail
                go_roundw
                case rel => first | exact ⟨i + 1, s2, by omega, by go_num, by go_num, by omega, HN2, by first | rfl | trivial⟩ | ((repeat apply Exists.intro); exact ⟨⟨i + 1, s2, by omega, rfl, rfl, by omega, HN2, by first | rfl | trivial⟩, rfl⟩)
                case measure => first | (simp [intOf]; done) | (simp [intOf]; omega)
          · obtain rfl : i = nb := by omega
            have hli' : ¬ (i : Int) < (i : Int) := by omega
            obtain ⟨U, hU⟩ : ∃ U, U = unst wd (ws.take i) := ⟨_, rfl⟩
            have hTL : (ws.take i).length = i := by rw [List.length_take, HWL.out]; omega
            have hul := unst_len wd (by omega) (ws.take i)
            rw [← hU, ← HST.out, hTL] at hul
            have hmul2 : wd * i ≤ 12 * 2000 := Nat.mul_le_mul hwd12 (by omega)
            obtain ⟨m2, hm2⟩ : ∃ m2, m2 = wd * i := ⟨_, rfl⟩
            rw [← hm2] at hul hmul2
            have e1 : (i : Int) * (wd : Int) = (m2 : Int) := by rw [hm2, Int.natCast_mul, Int.mul_comm]
            obtain ⟨N, hN⟩ : ∃ N, N = U.length := ⟨_, rfl⟩
            have e2 : (m2 : Int) - (s2 : Int) = (N : Int) := by omega
            have hN4 : N ≤ 24000 := by omega
            obtain ⟨i4, hi4, hz40, hz41, hz42⟩ := info_of info4
            have hmk4 := fun W => run_make (P := Tryz.prog) W 23 4 i4 (.bool false) Tryz.underlying23 hi4 hz40 .i64 .i64 (N : Int) (N : Int) (by omega) (by omega) (by rw [hz42]; omega) (by omega)
            simp only [hz41] at hmk4
            have HU := hid hU
            have HNU := hid hN
            have HTL := hid hTL
            clear hU hN hul hm2 HST hs2 hTL
            go_wp2_with fail
            have HB7 := hid (show Below w6.heap.size w6 (w6.alloc (.cells (madeCells #[.bool false] N) 4)) from (Below.refl _ _).alloc (Nat.le_refl _) _)
            have HA7 := hid (show Arr (w6.alloc (.cells (madeCells #[.bool false] N) 4)) w6.heap.size 4 (fillB U 0) from by
              have := Arr.made w6 4 (.bool false) N
              rw [HNU.out, fillB_zero] at this
              rw [HNU.out]
              exact this)
            obtain ⟨Q0, hQ0⟩ : ∃ x, x = w6.heap.size := ⟨_, rfl⟩
            rw [← hQ0] at HA7 HB7
            have HQ0 := hid hQ0
            rw [← hQ0]
            generalize w6.alloc (.cells (madeCells #[.bool false] N) 4) = w7 at *
            clear hmk4 hQ0 e1 e2
            go_loopw [20, 21] (fun tv iv wr => ∃ (j t : Nat), j ≤ i ∧ iv = .int .i64 (j : Nat) ∧ tv = .int .i64 (t : Nat) ∧ t ≤ N ∧ Hid (t = (unst wd ((ws.take i).take j)).length) ∧ Hid (Arr wr Q0 4 (fillB U t)) ∧ Hid (Below Q0 w6 wr)) (fun _ iv _ => i - (intOf iv).toNat)
            case atStart => exact ⟨0, 0, by omega, rfl, rfl, by omega, hid rfl, HA7, HB7⟩
            case round =>
              clear HA7 HB7
              obtain ⟨j, t, hj, rfl, rfl, ht, HT, HAX, HBX⟩ := hrel
              by_cases hlj : j < i
              · have hlj' : (j : Int) < (i : Int) := by omega
                have hjk : j < k := by omega
                have hP6 : P0 < w6.heap.size := HA6.out.lt
                have hgc : wr.cell? ⟨P0, j, none⟩ = some (.int .i64 (ws.getD j 0 : Nat)) := by
                  rw [(show Below w6.heap.size w6 wr from by rw [← HQ0.out]; exact HBX.out).cell (p := ⟨P0, j, none⟩) hP6]
                  have := HA6.out.cell? j
                  rw [Rs.ints, List.getElem?_map, List.getElem?_eq_getElem (by rw [HWL.out]; exact hjk)] at this
                  simpa [List.getD, List.getElem?_eq_getElem (show j < ws.length by rw [HWL.out]; exact hjk)] using this
                obtain ⟨hAt, hLen⟩ := unst_at wd (ws.take i) j (by rw [HTL.out]; exact hlj)
                have hgd : (ws.take i).getD j 0 = ws.getD j 0 := by simp [List.getD, hlj]
                rw [hgd, ← HT.out] at hAt hLen
                rw [← HU.out] at hAt
                have hle := hAt.le
                obtain ⟨n1, n2⟩ := HIN.out j hlj
                have hx4 : ws.getD j 0 < 2 ^ wd := Rs.getD_lt (by rw [HWD.out]; exact azGF L) HC.out.1 j
                have hwr : IntKind.i64.wrap ((M : Int) - 1) = (M : Int) - 1 := IntWalk.i64_in _ ⟨by omega, by omega⟩
                clear hgd hP6
                generalize ws.getD j 0 = x at *
                have hw6 : 6 ≤ wd := by rw [HWD.out]; unfold azW; split; omega; split; omega; split <;> omega
                by_cases z1 : x = 1
                · have x2 : ((x : Int) == 1) = true := by rw [beq_iff_eq]; omega
                  have hx1 : ¬ 1 < x := by omega
                  have hx1' : ¬ (1 : Int) < (x : Int) := by omega
                  clear hx4 n1 n2 hwr
                  have hrep : unstW wd x = List.replicate (wd - 1) false := by
                    unfold unstW
                    rw [if_pos (.inl z1)]
                    congr 1
                    first | exact decide_eq_true hx1 | exact decide_eq_false hx1
                  rw [hrep, List.length_replicate] at hle hLen
                  have hval : ∀ k2, k2 + 1 < wd → U.getD (t + k2) false = false := fun k2 h2 => by
                    rw [hAt.get (by rw [hrep, List.length_replicate]; omega), hrep]
                    simp [List.getD, show k2 < wd - 1 by omega]
                  have HVAL := hid hval
                  have HLEN := hid hLen
                  rw [← HNU.out] at hle
                  clear hval hLen hrep hAt z1 hx1
                  go_wp2_with fail
                  go_loopw [24] (fun jv wr => ∃ k2 : Nat, k2 + 1 ≤ wd ∧ jv = .int .i64 (t + k2 : Nat) ∧ Hid (Arr wr Q0 4 (fillB U (t + k2))) ∧ Hid (Below Q0 w6 wr)) (fun jv _ => t + wd - (intOf jv).toNat)
                  case atStart => exact ⟨0, by omega, rfl, HAX, HBX⟩
                  case round =>
                    clear HAX HBX hgc
                    obtain ⟨k2, hk2, rfl, HAY, HBY⟩ := hrel
                    by_cases hl2 : k2 + 1 < wd
                    · have hl2' : ((t + k2 : Nat) : Int) < (t : Int) + (wd : Int) - 1 := by omega
                      have hset := fillB_set U (t + k2) (by rw [← HNU.out]; omega)
                      rw [HVAL.out k2 hl2] at hset
                      obtain ⟨v0, hv0⟩ := HAY.out.has (t + k2) (by rw [fillB_len U _ (by rw [← HNU.out]; omega), ← HNU.out]; omega)
                      have fz := HAY.out.frozen (t + k2)
                      have HAZ := hid (show Arr (wr.setCell ⟨Q0, t + k2, none⟩ (.bool false)) Q0 4 (fillB U (t + (k2 + 1))) from by
                        have := HAY.out.set (t + k2) (.bool false)
                        rwa [hset] at this)
                      have HBZ := hid (show Below Q0 w6 (wr.setCell ⟨Q0, t + k2, none⟩ (.bool false)) from HBY.out.setCell (Nat.le_refl _) _)
                      have htk : t + k2 < N := by omega
                      clear hset HAY HBY
                      go_wp2_with fail
                      go_roundw
                      case rel => first | exact ⟨k2 + 1, by omega, by go_num, HAZ, HBZ⟩ | ((repeat apply Exists.intro); exact ⟨⟨k2 + 1, by omega, by go_num, HAZ, HBZ⟩, rfl⟩)
                      case measure => first | (simp [intOf]; done) | (simp [intOf]; omega)
                    · obtain rfl : wd = k2 + 1 := by omega
                      have hl2' : ¬ ((t + k2 : Nat) : Int) < (t : Int) + ((k2 + 1 : Nat) : Int) - 1 := by omega
                      have HLE2 := hid (show t + k2 = (unst (k2 + 1) ((ws.take i).take (j + 1))).length from by rw [HLEN.out]; rfl)
                      have hle2 : t + k2 ≤ N := by omega
                      clear HLEN
                      go_wp2_with fail
                      go_roundw
                      case rel => first | exact ⟨j + 1, t + k2, by omega, by go_num, by go_num, hle2, HLE2, HAY, HBY⟩ | ((repeat apply Exists.intro); exact ⟨⟨j + 1, t + k2, by omega, by go_num, by go_num, hle2, HLE2, HAY, HBY⟩, rfl⟩)
                      case measure => first | (simp [intOf]; done) | (simp [intOf]; omega)
                · have x2 : ((x : Int) == 1) = false := by rw [beq_eq_false_iff_ne]; omega
                  by_cases z2 : x = 2 ^ wd - 2
                  · have x3 : ((x : Int) == (M : Int) - 1) = true := by
                      rw [beq_iff_eq]; have := HM.out; omega
                    have hx1 : 1 < x := by have := HM.out; omega
                    have hx1' : (1 : Int) < (x : Int) := by omega
                    clear hx4 n1 n2
                    have hrep : unstW wd x = List.replicate (wd - 1) true := by
                      unfold unstW
                      rw [if_pos (.inr z2)]
                      congr 1
                      first | exact decide_eq_true hx1 | exact decide_eq_false hx1
                    rw [hrep, List.length_replicate] at hle hLen
                    have hval : ∀ k2, k2 + 1 < wd → U.getD (t + k2) false = true := fun k2 h2 => by
                      rw [hAt.get (by rw [hrep, List.length_replicate]; omega), hrep]
                      simp [List.getD, show k2 < wd - 1 by omega]
                    have HVAL := hid hval
                    have HLEN := hid hLen
                    rw [← HNU.out] at hle
                    clear hval hLen hrep hAt z2 z1 hx1
                    go_wp2_with fail
                    go_loopw [24] (fun jv wr => ∃ k2 : Nat, k2 + 1 ≤ wd ∧ jv = .int .i64 (t + k2 : Nat) ∧ Hid (Arr wr Q0 4 (fillB U (t + k2))) ∧ Hid (Below Q0 w6 wr)) (fun jv _ => t + wd - (intOf jv).toNat)
                    case atStart => exact ⟨0, by omega, rfl, HAX, HBX⟩
                    case round =>
                      clear HAX HBX hgc
                      obtain ⟨k2, hk2, rfl, HAY, HBY⟩ := hrel
                      by_cases hl2 : k2 + 1 < wd
                      · have hl2' : ((t + k2 : Nat) : Int) < (t : Int) + (wd : Int) - 1 := by omega
                        have hset := fillB_set U (t + k2) (by rw [← HNU.out]; omega)
                        rw [HVAL.out k2 hl2] at hset
                        obtain ⟨v0, hv0⟩ := HAY.out.has (t + k2) (by rw [fillB_len U _ (by rw [← HNU.out]; omega), ← HNU.out]; omega)
                        have fz := HAY.out.frozen (t + k2)
                        have HAZ := hid (show Arr (wr.setCell ⟨Q0, t + k2, none⟩ (.bool true)) Q0 4 (fillB U (t + (k2 + 1))) from by
                          have := HAY.out.set (t + k2) (.bool true)
                          rwa [hset] at this)
                        have HBZ := hid (show Below Q0 w6 (wr.setCell ⟨Q0, t + k2, none⟩ (.bool true)) from HBY.out.setCell (Nat.le_refl _) _)
                        have htk : t + k2 < N := by omega
                        clear hset HAY HBY
                        go_wp2_with fail
                        go_roundw
                        case rel => first | exact ⟨k2 + 1, by omega, by go_num, HAZ, HBZ⟩ | ((repeat apply Exists.intro); exact ⟨⟨k2 + 1, by omega, by go_num, HAZ, HBZ⟩, rfl⟩)
                        case measure => first | (simp [intOf]; done) | (simp [intOf]; omega)
                      · obtain rfl : wd = k2 + 1 := by omega
                        have hl2' : ¬ ((t + k2 : Nat) : Int) < (t : Int) + ((k2 + 1 : Nat) : Int) - 1 := by omega
                        have HLE2 := hid (show t + k2 = (unst (k2 + 1) ((ws.take i).take (j + 1))).length from by rw [HLEN.out]; rfl)
                        have hle2 : t + k2 ≤ N := by omega
                        clear HLEN
                        go_wp2_with fail
                        go_roundw
                        case rel => first | exact ⟨j + 1, t + k2, by omega, by go_num, by go_num, hle2, HLE2, HAY, HBY⟩ | ((repeat apply Exists.intro); exact ⟨⟨j + 1, t + k2, by omega, by go_num, by go_num, hle2, HLE2, HAY, HBY⟩, rfl⟩)
                        case measure => first | (simp [intOf]; done) | (simp [intOf]; omega)
                  · have x3 : ((x : Int) == (M : Int) - 1) = false := by
                      rw [beq_eq_false_iff_ne]; have := HM.out; omega
                    have hput : unstW wd x = putBits x wd := by
                      unfold unstW
                      rw [if_neg (by rintro (h | h); exact z1 h; exact z2 h)]
                    rw [hput] at hAt
                    rw [hput, putBits_len] at hle hLen
                    have hx12 : x < 4096 := by
                      have h1 : 2 ^ wd ≤ 2 ^ 12 := Nat.pow_le_pow_right (by omega) hwd12
                      omega
                    have HVAL := hid (codeAt_put wd x hAt)
                    have HLEN := hid hLen
                    rw [← HNU.out] at hle
                    clear hLen hput hAt z1 z2 hx4 n1 n2
                    go_wp2_with fail
                    go_loopw [20, 25] (fun tv bv wr => ∃ k2 : Nat, k2 ≤ wd ∧ tv = .int .i64 (t + k2 : Nat) ∧ bv = .int .i64 ((wd : Int) - 1 - (k2 : Nat)) ∧ Hid (Arr wr Q0 4 (fillB U (t + k2))) ∧ Hid (Below Q0 w6 wr)) (fun tv _ _ => t + wd - (intOf tv).toNat)
                    case atStart => exact ⟨0, by omega, rfl, by go_num, HAX, HBX⟩
                    case round =>
                      clear HAX HBX hgc
                      obtain ⟨k2, hk2, rfl, rfl, HAY, HBY⟩ := hrel
                      by_cases hl2 : k2 < wd
                      · obtain ⟨e, he⟩ : ∃ e, e = wd - 1 - k2 := ⟨_, rfl⟩
                        have he1 : (wd : Int) - 1 - (k2 : Int) = (e : Int) := by omega
                        have he2 : (0 : Int) ≤ (e : Int) := by omega
                        have he12 : e < 12 := by omega
                        have hpe : 2 ^ e < 4096 := Nat.pow_lt_pow_right (a := 2) (by omega) he12
                        have hw64 : wrap64 ((2 : Int) ^ e) = (2 : Int) ^ e := by
                          have h1 : (2 : Int) ^ e = ((2 ^ e : Nat) : Int) := by rw [Int.natCast_pow]; rfl
                          rw [h1]
                          clear h1
                          generalize (2 ^ e : Nat) = E at hpe ⊢
                          exact IntWalk.wrap64_in _ ⟨by omega, by omega⟩
                        obtain ⟨bt, hbt⟩ : ∃ bt, bt = U.getD (t + k2) false := ⟨_, rfl⟩
                        have hvb : (bits .and .i64 (x : Int) (wrap64 ((2 : Int) ^ e)) != 0) = bt := by
                          rw [hw64, i64_bit x e hx12 he12, hbt, HVAL.out k2 hl2, ← he]
                          have h0 : x / 2 ^ e % 2 = 0 ∨ x / 2 ^ e % 2 = 1 := by omega
                          have h1 : 1 ≤ 2 ^ e := Nat.one_le_two_pow
                          generalize 2 ^ e = E at *
                          rcases h0 with h0 | h0
                          · rw [h0]; simp
                          · rw [h0]; simp; omega
                        have hset := fillB_set U (t + k2) (by rw [← HNU.out]; omega)
                        rw [← hbt] at hset
                        obtain ⟨v0, hv0⟩ := HAY.out.has (t + k2) (by rw [fillB_len U _ (by rw [← HNU.out]; omega), ← HNU.out]; omega)
                        have fz := HAY.out.frozen (t + k2)
                        have HAZ := hid (show Arr (wr.setCell ⟨Q0, t + k2, none⟩ (.bool bt)) Q0 4 (fillB U (t + (k2 + 1))) from by
                          have := HAY.out.set (t + k2) (.bool bt)
                          rwa [hset] at this)
                        have HBZ := hid (show Below Q0 w6 (wr.setCell ⟨Q0, t + k2, none⟩ (.bool bt)) from HBY.out.setCell (Nat.le_refl _) _)
                        have htk : t + k2 < N := by omega
                        clear hset HAY HBY he hw64 hpe hbt
                        go_wp2_with fail
                        go_roundw
                        case rel => first | exact ⟨k2 + 1, by omega, by go_num, congrArg _ (by omega), HAZ, HBZ⟩ | ((repeat apply Exists.intro); exact ⟨⟨k2 + 1, by omega, by go_num, congrArg _ (by omega), HAZ, HBZ⟩, rfl⟩)
                        case measure => first | (simp [intOf]; done) | (simp [intOf]; omega)
                      · obtain rfl : wd = k2 := by omega
                        have hbe : (wd : Int) - 1 - (wd : Int) = -1 := by omega
                        have HLE2 := hid (show t + wd = (unst wd ((ws.take i).take (j + 1))).length from by rw [HLEN.out])
                        have hle2 : t + wd ≤ N := by omega
                        clear HLEN
                        go_wp2_with fail
                        go_roundw
                        case rel => first | exact ⟨j + 1, t + wd, by omega, by go_num, by go_num, hle2, HLE2, HAY, HBY⟩ | ((repeat apply Exists.intro); exact ⟨⟨j + 1, t + wd, by omega, by go_num, by go_num, hle2, HLE2, HAY, HBY⟩, rfl⟩)
                        case measure => first | (simp [intOf]; done) | (simp [intOf]; omega)
              · obtain rfl : j = i := by omega
                have hlj' : ¬ (j : Int) < (j : Int) := by omega
                have htN : t = N := by
                  rw [HT.out, HNU.out, HU.out, List.take_of_length_le (by rw [HTL.out]; exact Nat.le_refl _)]
                have hpc : (100 : Int) * ((k : Int) - (j : Int)) / (k : Int) = ((100 * (k - j) / k : Nat) : Int) := by
                  rw [Int.natCast_ediv, Int.natCast_mul, Int.natCast_sub hal]; rfl
                have HPC := hid hpc
                have HTN := hid htN
                have HBF := hid (show Below w.heap.size w wr from HB6.out.trans (HBX.out.mono (by rw [HQ0.out]; exact HB6.out.size)))
                clear hpc htN
                go_wp2_with fail
                go_ret2
                rw [← HU.out]
                have hR := Rd.of_arr (HAX.out.alloc (.cells #[.slice (some ⟨Q0, 0, none⟩) N N, .int .i64 (100 * ((k : Int) - (j : Int)) / (k : Int))] 92))
                rw [HTN.out, HNU.out, fillB_all, List.length_map, ← HNU.out] at hR
                refine ⟨wr.heap.size, some ⟨Q0, 0, none⟩, N, rfl, ?_, by rw [HNU.out]; exact Nat.le_refl _, by rw [← HNU.out]; exact hR, HBF.out.alloc HBF.out.size _⟩
                have hA := Arr.of_new wr 92 #[.slice (some ⟨Q0, 0, none⟩) N N, .int .i64 (100 * ((k : Int) - (j : Int)) / (k : Int))]
                rw [← HNU.out, ← HPC.out]
                exact hA
end Go.Proofs.YtliephokeafllaaGreatDoor
