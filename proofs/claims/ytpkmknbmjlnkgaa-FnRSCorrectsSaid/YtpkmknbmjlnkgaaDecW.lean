/- The walk of the decoder. -/
import Derived.Test.YtpkmknbmjlnkgaaDecL
import Derived.Test.YtpkmknbmjlnkgaaFieldB
namespace Go.Proofs.Ytpkmknbmjlnkgaa
open Go.RowKit
set_option linter.unusedVariables false

theorem wrapExc (t : TypeId) (v : Value) (w : World) : Calls Try.prog 59 #[.iface t v] w fun e w' => (∃ u, e = .returned (.iface 108 u)) ∧ w = w' := by
  go_enter Try.func59, Try.ntmps59
  go_wp2
  go_ret
  exact ⟨⟨_, rfl⟩, rfl⟩

theorem newDec (g : Nat) (w : World) : Calls Try.prog 45 #[fieldPtr g] w fun e w' => ∃ D, e = .returned (fieldPtr D) ∧ w.heap.size ≤ D ∧ Arr w' D 92 [fieldPtr g] ∧ Below w.heap.size w w' := by
  unfold fieldPtr
  go_enter Try.func45, Try.ntmps45
  go_wp2
  go_ret
  exact ⟨w.heap.size, rfl, Nat.le_refl _, Arr.of_new w 92 #[.pointer (some ⟨g, 0, none⟩)], (Below.refl _ _).alloc (Nat.le_refl _) _⟩

/-- The decoder ends with an error, or has put the words right. -/
def DecOut (p m base R tb B0 : Nat) (l : List Nat) (rest : List Value) (w : World) (e : Ending) (w' : World) : Prop :=
  Below B0 w w' ∧ ∃ o, DecRel p m base R l o ∧ ((o = none ∧ ∃ v, e = .returned (.iface 108 v)) ∨ ∃ l', o = some l' ∧ e = .returned .nilIface ∧ Arr w' tb 3 (ints l' ++ rest))

theorem rd_front {w : World} {tb n : Nat} {l : List Nat} {rest : List Value} (hT : Arr w tb 3 (ints l ++ rest)) (hl : l.length = n) : Rd w (some ⟨tb, 0, none⟩) n (ints l) := by
  have h1 := (Rd.of_arr hT).take n (by simp [ints]; omega)
  rwa [List.take_append_of_le_length (by simp [ints]; omega), List.take_of_length_le (by simp [ints]; omega)] at h1

attribute [local go_sem ↓] Go.wp_at_zero Go.wp_at_succ
set_option maxRecDepth 100000 in
set_option maxHeartbeats 8000000 in
theorem decode (D g p m base BL B0 tb n c R : Nat) (l : List Nat) (rest : List Value) (w : World) (h : IsGF p m) (hb1 : base ≤ 1) (hF : IsField w g p m base) (hLg : IsLog w BL g p m) (hD : Arr w D 92 [fieldPtr g]) (hT : Arr w tb 3 (ints l ++ rest)) (hl : l.length = n) (hn1 : 1 ≤ n) (hn : n ≤ 1000) (hnc : n ≤ c) (hA : AllIn m l) (hR1 : 2 ≤ R) (hR : R ≤ 100) (hRm : R + base ≤ 2 ^ m) (hB0 : B0 ≤ tb) (htB : tb < BL) (htD : tb ≠ D) :
    Calls Try.prog 46 #[fieldPtr D, .slice (some ⟨tb, 0, none⟩) n c, .int .i64 R] w (DecOut p m base R tb B0 l rest w) := by
  have hN1 : 2 ^ m ≤ 4096 := Nat.pow_le_pow_right (n := 2) (by omega) h.small
  obtain ⟨i0, hi, hz0, hz1, hz2⟩ := info_parts info3
  have hDl := hD.lt
  have htl := hT.lt
  have H := hid h
  have HF := hid hF
  have HLG := hid hLg
  have HD := hid hD
  have HT := hid hT
  have HLN := hid hl
  have HA := hid hA
  have hDc : w.cell? ⟨D, 0, none⟩ = some (fieldPtr g) := hD.cell? 0
  have HDC := hid hDc
  have np := newPoly (some ⟨g, 0, none⟩) (some ⟨tb, 0, none⟩) n c l 0 w (rd_front hT hl) hn1 (by omega) hnc (fun a e => Nat.zero_le _) (Nat.zero_le _)
  have hmk := fun W => run_make (P := Try.prog) W 30 3 i0 (.int .i64 0) Try.underlying30 hi hz0 .i64 .i64 (R : Int) (R : Int) (by omega) (by omega) (by rw [hz2]; omega) (by omega)
  simp only [hz1] at hmk
  clear h hF hLg hD hT hl hA
  unfold fieldPtr at *
  go_enter Try.func46, Try.ntmps46
  go_wp2_with fail
  refine np.mono ?_
  rintro e w1 ⟨qp, rfl, hqp, hP, hb⟩
  have HP := hid hP
  have HB1 := hid hb
  have hD1 := (hb.cell (p := ⟨D, 0, none⟩) hDl).trans HDC.out
  clear np hP hb hDc
  go_wp2_with fail
  have HA2 := hid (Arr.made w1 3 (.int .i64 0) R)
  have HB2 := hid (show Below w1.heap.size w1 (w1.alloc (.cells (madeCells #[.int .i64 0] R) 3)) from (Below.refl _ _).alloc (Nat.le_refl _) _)
  have hS1 := HB1.out.size
  generalize hw2 : w1.alloc (.cells (madeCells #[.int .i64 0] R) 3) = w2 at *
  clear hw2 hmk hD1
  have FB := hid (fun W (hW : Below w1.heap.size w1 W) => HF.out.below (HB1.out.trans (hW.mono hS1)))
  have DB := hid (fun W (hW : Below w1.heap.size w1 W) => ((HB1.out.trans (hW.mono hS1)).cell (p := ⟨D, 0, none⟩) hDl).trans HDC.out)
  have PB := hid (fun W (hW : Below w1.heap.size w1 W) => HP.out.below hW)
  have hTL : 1 ≤ (tidy l).length := (tidy_cases l).1
  have hTL2 : (tidy l).length ≤ 1000 := Nat.le_trans (tidy_len_le (by rw [HLN.out]; omega) (by rw [HLN.out]; exact Nat.le_refl _)) hn
  have HTA := hid (tidy_in H.out HA.out)
  go_loopw [10, 11] (fun bv iv wr => ∃ (k : Nat) (nb : Bool), k ≤ R ∧ iv = .int .i64 (k : Nat) ∧ bv = .bool nb ∧ Hid (nb = true ↔ AllZ p m base k l) ∧ Arr wr w1.heap.size 3 (ints (List.replicate (R - k) 0 ++ synL p m base l k)) ∧ Below w1.heap.size w1 wr) (fun _ iv _ => R - (intOf iv).toNat)
  case atStart => exact ⟨0, true, by omega, rfl, rfl, hid ⟨fun _ i hi => by omega, fun _ => rfl⟩, by simpa [ints, synL] using HA2.out, HB2.out⟩
  case round =>
    clear HA2 HB2
    obtain ⟨k, nb, hk, rfl, rfl, HNB, hAx, hBx⟩ := hrel
    have hDx := DB.out wr hBx
    have HAX := hid hAx
    have HBX := hid hBx
    by_cases hlt : k < R
    · have hlt' : (k : Int) < (R : Int) := by omega
      have bo := fun M => baseOf g p m base (wr.drewN M) (FB.out _ (below_drewN hBx M))
      have ea := fun M => exp_sum (wr.drewN M) g p m base k (FB.out _ (below_drewN hBx M)) (by omega) hb1 (by omega)
      have hxl := ex_lt H.out (k + base)
      have HSY := hid (show synL p m base l (k + 1) = valAt p m (ex p m (k + base)) l :: synL p m base l k from rfl)
      have hval : valAt p m (ex p m (k + base)) (tidy l) = valAt p m (ex p m (k + base)) l := val_tidy H.out hxl l HA.out
      have HZZ := hid (show AllZ p m base (k + 1) l ↔ AllZ p m base k l ∧ valAt p m (ex p m (k + base)) l = 0 from ⟨fun hz => ⟨fun i hi => hz i (by omega), hz k (by omega)⟩, fun hz i hi => by
        rcases Nat.lt_or_ge i k with h1 | h1
        · exact hz.1 i h1
        · rw [show i = k from by omega]; exact hz.2⟩)
      generalize ex p m (k + base) = x at *
      have ev := fun M => evaluateAt qp g p m base 0 x (tidy l) (wr.drewN M) H.out (FB.out _ (below_drewN hBx M)) (PB.out _ (below_drewN hBx M)) hTL (by omega) hxl HTA.out
      rw [hval] at ev
      have hsum : IntKind.i64.wrap ((k : Int) + (base : Int)) = (k : Int) + (base : Int) := IntWalk.i64_in _ ⟨by omega, by omega⟩
      have hlen : (ints (List.replicate (R - k) 0 ++ synL p m base l k)).length = R := by rw [ints_length, List.length_append, List.length_replicate, syn_len]; omega
      have i1 : (0 : Int) ≤ (R : Int) - 1 - (k : Int) := by omega
      have i2 : (R : Int) - 1 - (k : Int) < (R : Int) := by omega
      have i3 : ((R : Int) - 1 - (k : Int)).toNat = R - 1 - k := by omega
      have HSET := hid (show (ints (List.replicate (R - k) 0 ++ synL p m base l k)).set (R - 1 - k) (.int .i64 (valAt p m x l : Nat)) = ints (List.replicate (R - (k + 1)) 0 ++ synL p m base l (k + 1)) from by
        rw [HSY.out, show R - k = (R - 1 - k) + 1 from by omega, List.replicate_succ', show R - (k + 1) = R - 1 - k from by omega]
        simp [ints])
      have hcell := fun M => (HAX.out.drewN M).has (R - 1 - k) (by rw [hlen]; omega)
      have fz := fun M => (HAX.out.drewN M).frozen (R - 1 - k)
      have HC := hid hcell
      generalize hvv : valAt p m x l = v at *
      have HVV := hid hvv
      clear hAx hBx hcell hlen hval hvv
      unfold fieldPtr at *
      go_wp2_with fail
      go_quiet ((first | (go_at_call 61; exact (bo _).mono fun _ _ hh => ⟨hh.1, _, hh.2.symm⟩) | (go_at_call 60; exact (ea _).mono fun _ _ hh => ⟨hh.1, _, hh.2.symm⟩) | (go_at_call 36; exact (ev _).mono fun _ _ hh => ⟨hh.1, by obtain ⟨n2, hn2⟩ := hh.2; exact ⟨_, hn2.trans (World.drewN_drewN _ _ _)⟩⟩)))
      clear bo ea ev
      generalize hw4 : wr.drewN _ = w4 at *
      have HAX4 := hid (show Arr w4 w1.heap.size 3 (ints (List.replicate (R - k) 0 ++ synL p m base l k)) from by rw [← hw4]; exact HAX.out.drewN _)
      have HBX4 := hid (show Below w1.heap.size w1 w4 from by rw [← hw4]; exact below_drewN HBX.out _)
      obtain ⟨v0, hv0⟩ : ∃ v0, w4.cell? ⟨w1.heap.size, R - 1 - k, none⟩ = some v0 := by
        obtain ⟨v0, hv0⟩ := HC.out 0
        exact HAX4.out.has _ (by rw [ints_length, List.length_append, List.length_replicate, syn_len]; omega)
      have fz4 := HAX4.out.frozen (R - 1 - k)
      clear hw4 HAX HBX HC fz hDx
      by_cases hv : v = 0
      · subst hv
        go_wp2_with fail
        go_roundw
        case rel =>
          refine ⟨k + 1, nb, by omega, by go_num, rfl, hid ?_, ?_, HBX4.out.setCell (Nat.le_refl _) _⟩
          · rw [HZZ.out, HNB.out]
            exact ⟨fun hh => ⟨hh, rfl⟩, fun hh => hh.1⟩
          · rw [← HSET.out]
            exact HAX4.out.set _ _
        case measure => simp [intOf]; omega
      · have hv' : ((v : Int) == 0) = false := by rw [beq_eq_false_iff_ne]; omega
        have HV := hid hv
        clear hv
        go_wp2_with fail
        go_roundw
        case rel =>
          refine ⟨k + 1, false, by omega, by go_num, rfl, hid ?_, ?_, HBX4.out.setCell (Nat.le_refl _) _⟩
          · rw [HZZ.out]
            exact ⟨fun hh => by simp at hh, fun hh => absurd hh.2 HV.out⟩
          · rw [← HSET.out]
            exact HAX4.out.set _ _
        case measure => simp [intOf]; omega
    · obtain rfl : k = R := by omega
      have hlt' : ¬ (k : Int) < (k : Int) := by omega
      have HS := hid (show Arr wr w1.heap.size 3 (ints (synL p m base l k)) from by have := HAX.out; rwa [Nat.sub_self, List.replicate_zero, List.nil_append] at this)
      clear hAx hBx HAX
      have HBW := hid (HB1.out.trans (HBX.out.mono hS1))
      have HTW := hid (HT.out.below HBW.out htl)
      by_cases hnb : nb = true
      · subst hnb
        have HAZ := hid (HNB.out.1 rfl)
        go_wp2_with fail
        go_ret
        exact ⟨HBW.out.mono (by omega), some l, .inl ⟨HAZ.out, rfl⟩, .inr ⟨l, rfl, rfl, HTW.out⟩⟩
      · have hnb2 : nb = false := by simpa using hnb
        subst hnb2
        have HAZ := hid (show ¬ AllZ p m base k l from fun hh => by simpa using HNB.out.2 hh)
        clear hnb HNB
        have hsl := syn_len (p := p) (m := m) base l k
        have nps := newPoly (some ⟨g, 0, none⟩) (some ⟨w1.heap.size, 0, none⟩) k k (synL p m base l k) 0 wr (by have := Rd.of_arr HS.out; rwa [ints_length, hsl] at this) (by omega) (by omega) (Nat.le_refl _) (fun a e => Nat.zero_le _) (Nat.zero_le _)
        have HGB := hid (show Good m k (tidy (synL p m base l k)) from good_tidy H.out (syn_in H.out base HA.out k) (by omega) (by omega))
        have HSYN := hid (rfl : synL p m base l k = synL p m base l k)
        unfold fieldPtr at *
        go_wp2_with fail
        refine nps.mono ?_
        rintro e w5 ⟨qs, rfl, hqs, hPs, hb5⟩
        have HPS := hid hPs
        have HB5 := hid (HBX.out.trans (hb5.mono HBX.out.size))
        clear nps hPs hb5 hDx
        have hD5 := DB.out w5 HB5.out
        have bm : Calls Try.prog 40 #[fieldPtr g, .int .i64 (k : Nat), .int .i64 1] w5 (PtrOk (fieldPtr g) (tidy (monoL 1 k)) w5) := buildMonoB g p m base 1 k w5 (FB.out w5 HB5.out) (by omega) (by omega)
        rw [show tidy (monoL 1 k) = monoL 1 k from tidy_first (.inl (by simp [monoL])) (by simp [monoL])] at bm
        have HGA := hid (show Good m (k + 1) (monoL 1 k) from ⟨tidy_first (.inl (by simp [monoL])) (by simp [monoL]), mono_in H.out (one_lt H.out) k, by simp [monoL], by simp [monoL]⟩)
        unfold fieldPtr at *
        go_wp2_with fail
        refine bm.mono ?_
        rintro e w6 ⟨qm, Bm, rfl, hPm, hb6⟩
        have HPM := hid hPm
        have HPS6 := hid (HPS.out.below hb6)
        have HB6 := hid (HB5.out.trans (hb6.mono HB5.out.size))
        clear bm hPm hb6 hD5 HPS HB5
        have hD6 := DB.out w6 HB6.out
        have eu := euclid D qm qs g p m base Bm 0 k (monoL 1 k) (tidy (synL p m base l k)) w6 H.out (FB.out w6 HB6.out) hD6 HPM.out HPS6.out hR1 hR HGA.out (by simp [monoL]) (by simp [monoL]) HGB.out
        have HBND := hid (fun rl r tl t hE => eucs_bound H.out hR1 HGA.out (by simp [monoL]) (by simp [monoL]) HGB.out (rl := rl) (r := r) (tl := tl) (t := t) hE)
        unfold fieldPtr at *
        go_wp2_with fail
        refine eu.mono ?_
        clear eu hD6
        rintro e w7 ⟨rl, r, tl, t, hE, hfin, hb7, hcase⟩
        have HE := hid hE
        have HFIN := hid hfin
        have HB7 := hid (HB6.out.trans (hb7.mono HB6.out.size))
        have hEB := HBND.out rl r tl t hE
        have HEB := hid hEB
        clear hE hfin hb7 hEB HBND
        have HBW7 := hid (HB1.out.trans (HB7.out.mono hS1))
        rcases hcase with ⟨ht0, v, rfl⟩ | ⟨ht0, qsg, qom, Bsg, Bom, rfl, hPsg, hPom⟩
        · have HT0 := hid ht0
          clear ht0
          go_wp2_with fail
          refine (wrapExc _ _ _).mono ?_
          rintro e w8 ⟨⟨u8, rfl⟩, rfl⟩
          go_wp2_with fail
          go_ret
          exact ⟨HBW7.out.mono (by omega), none, .inr ⟨HAZ.out, rl, r, tl, t, HE.out, HFIN.out, .inl ⟨HT0.out, rfl⟩⟩, .inl ⟨rfl, _, rfl⟩⟩
        · have HT0 := hid ht0
          have hGt := HEB.out.gt
          have hGr := HEB.out.gr
          have HSG := hid (show Good m 200 (tidy (scaleBy p m (inv p m (t.getD (t.length - 1) 0)) t)) from good_tidy H.out (scale_in H.out hGt.2.1) (by rw [scale_len]; exact hGt.2.2.1) (by rw [scale_len]; have := hGt.2.2.2; omega))
          have HOM := hid (show Good m 200 (tidy (scaleBy p m (inv p m (t.getD (t.length - 1) 0)) r)) from good_tidy H.out (scale_in H.out hGr.2.1) (by rw [scale_len]; exact hGr.2.2.1) (by rw [scale_len]; have := hGr.2.2.2; omega))
          have HEND := hid (show ∀ o, EndRel p m base l (tidy (scaleBy p m (inv p m (t.getD (t.length - 1) 0)) t)) (tidy (scaleBy p m (inv p m (t.getD (t.length - 1) 0)) r)) o → DecRel p m base k l o from fun o ho => .inr ⟨HAZ.out, rl, r, tl, t, HE.out, HFIN.out, .inr ⟨ht0, ho⟩⟩)
          have hPsg := hPsg
          generalize tidy (scaleBy p m (inv p m (t.getD (t.length - 1) 0)) t) = sg at *
          generalize tidy (scaleBy p m (inv p m (t.getD (t.length - 1) 0)) r) = om at *
          have hD7 := DB.out w7 HB7.out
          have fl := findLocs D qsg g p m base Bsg sg w7 H.out (FB.out w7 HB7.out) hD7 hPsg HSG.out
          have HPO := hid hPom
          clear hPsg hPom ht0 hGt hGr HT0 HE HFIN HEB
          unfold fieldPtr at *
          go_wp2_with fail
          refine fl.mono ?_
          clear fl hD7
          rintro e w8 ⟨hb8, hcase⟩
          have HB8 := hid (HB7.out.trans (hb8.mono HB7.out.size))
          have hS78 := hb8.size
          have HPO8 := hid (HPO.out.below hb8)
          have HBW8 := hid (HB1.out.trans (HB8.out.mono hS1))
          clear hb8 HPO
          rcases hcase with ⟨hnone, v, rfl⟩ | ⟨locs, Bl, hsome, rfl, hBl, hAl⟩
          · have HNO := hid hnone
            clear hnone
            go_wp2_with fail
            refine (wrapExc _ _ _).mono ?_
            rintro e w9 ⟨⟨u9, rfl⟩, rfl⟩
            go_wp2_with fail
            go_ret
            exact ⟨HBW8.out.mono (by omega), none, HEND.out none (.inl ⟨HNO.out, rfl⟩), .inl ⟨rfl, _, rfl⟩⟩
          · have HSO := hid hsome
            have hLin := locsOf_in H.out HSG.out.1 HSG.out.2.1 hsome
            have hLlen := locsOf_len hsome
            have HLIN := hid hLin
            have hD8 := DB.out w8 HB8.out
            have hRl : Rd w8 (some ⟨Bl, 0, none⟩) locs.length (ints locs) := by have := Rd.of_arr hAl; rwa [ints_length] at this
            have fm := findMags D qom g p m base Bom locs.length locs.length (some ⟨Bl, 0, none⟩) om locs w8 H.out hb1 (FB.out w8 HB8.out) hD8 HPO8.out HOM.out.2.2.1 (by have := HOM.out.2.2.2; omega) HOM.out.2.1 hRl (by have := HSG.out.2.2.2; omega) hLin
            have HAL := hid hAl
            have hNl : locs.length ≤ 200 := by have := HSG.out.2.2.2; omega
            have HMI := hid (mags_in H.out base HOM.out.2.1 locs locs.length)
            have HML := hid (show (magsL p m base om locs locs.length).length = locs.length from by simp [magsL])
            have HFIX := hid (show ∀ o, FixRel p m base l locs om o → DecRel p m base k l o from fun o ho => HEND.out o (.inr ⟨locs, HSO.out, ho⟩))
            clear hsome hLin hLlen hRl hAl HSG HOM HPO8 HEND
            have HMAGS := hid (show ∀ o, (∀ i, i < locs.length → denAt p m locs i ≠ 0) → (((∃ k, k < locs.length ∧ l.length ≤ lg p m (locs.getD k 0)) ∧ o = none) ∨
     ((∀ k, k < locs.length → lg p m (locs.getD k 0) < l.length) ∧ o = some (fixL p m l locs (magsL p m base om locs locs.length) locs.length))) → DecRel p m base k l o from fun o h1 h2 => HFIX.out o (.inr ⟨h1, h2⟩))
            unfold fieldPtr at *
            go_wp2_with fail
            refine fm.mono ?_
            clear fm hD8
            rintro e w9 ⟨hb9, hcase⟩
            have HB9 := hid (HB8.out.trans (hb9.mono HB8.out.size))
            have HAL9 := hid (HAL.out.below hb9 HAL.out.lt)
            have HBW9 := hid (HB1.out.trans (HB9.out.mono hS1))
            have hS89 := hb9.size
            have hS8 := HB8.out.size
            have hS7 := HB7.out.size
            clear hb9 HAL
            rcases hcase with ⟨hden, v, rfl⟩ | ⟨hden, BM, rfl, hBM, hAm⟩
            · have HDE := hid hden
              clear hden
              go_wp2_with fail
              refine (wrapExc _ _ _).mono ?_
              rintro e w10 ⟨⟨u9, rfl⟩, rfl⟩
              go_wp2_with fail
              go_ret
              exact ⟨HBW9.out.mono (by omega), none, HFIX.out none (.inl ⟨HDE.out, rfl⟩), .inl ⟨rfl, _, rfl⟩⟩
            · have HRES := hid (fun o => HMAGS.out o hden)
              have HAM := hid hAm
              clear hden hAm HFIX HMAGS
              have HTW9 := hid (HT.out.below HBW9.out htl)
              have HD9 := hid (HD.out.below HBW9.out hDl)
              have HLG9 := hid (HLG.out.below HBW9.out)
              generalize magsL p m base om locs locs.length = mags at *
              obtain ⟨N, hN⟩ : ∃ N, N = locs.length := ⟨_, rfl⟩
              have HN := hid hN
              rw [← hN]
              rw [← hN] at hNl HML
              clear hN
              go_wp2_with fail
              go_loopw [19] (fun iv wr => ∃ i, i ≤ N ∧ iv = .int .i64 (i : Nat) ∧ Hid (∀ j, j < i → lg p m (locs.getD j 0) < l.length) ∧ Arr wr tb 3 (ints (fixL p m l locs mags i) ++ rest) ∧ Arr wr D 92 [.pointer (some ⟨g, 0, none⟩)] ∧ IsLog wr BL g p m ∧ Arr wr Bl 3 (ints locs) ∧ Arr wr BM 3 (ints mags) ∧ Below B0 w wr) (fun iv _ => N - (intOf iv).toNat)
              case atStart => exact ⟨0, by omega, rfl, hid (fun j hj => by omega), HTW9.out, HD9.out, HLG9.out, HAL9.out, HAM.out, HBW9.out.mono (by omega)⟩
              case round =>
                clear HTW9 HD9 HLG9 HAL9 HAM HTW HS
                obtain ⟨i, hi, rfl, HJ, hTr, hDr, hLr, hAl, hAm, hBr⟩ := hrel
                by_cases hin : i < N
                · have hin' : (i : Int) < (N : Int) := by omega
                  have hDc : wr.cell? ⟨D, 0, none⟩ = some (.pointer (some ⟨g, 0, none⟩)) := hDr.cell? 0
                  have hLm : 0 < locs.getD i 0 ∧ locs.getD i 0 < 2 ^ m := by
                    rw [List.getD, List.getElem?_eq_getElem (by rw [← HN.out]; exact hin)]
                    exact HLIN.out _ (List.getElem_mem _)
                  have hlc : wr.cell? ⟨Bl, i, none⟩ = some (.int .i64 (locs.getD i 0 : Nat)) := by
                    rw [hAl.cell? i]
                    simp [ints, List.getD, List.getElem?_eq_getElem (show i < locs.length by rw [← HN.out]; exact hin)]
                  have lo := fun M => logAtL g p m BL (locs.getD i 0) (wr.drewN M) (hLr.drewN M) hLm.1 hLm.2 (by omega)
                  have HFS := hid (show fixL p m l locs mags (i + 1) = (fixL p m l locs mags i).set (n - 1 - lg p m (locs.getD i 0)) ((fixL p m l locs mags i).getD (n - 1 - lg p m (locs.getD i 0)) 0 ^^^ mags.getD i 0) from by rw [← HLN.out]; rfl)
                  have HJS := hid (show lg p m (locs.getD i 0) < n → ∀ j, j < i + 1 → lg p m (locs.getD j 0) < l.length from fun hh j hj => by
                    rcases Nat.lt_or_ge j i with h1 | h1
                    · exact HJ.out j h1
                    · rw [show j = i from by omega, HLN.out]; exact hh)
                  have HJE := hid (show n ≤ lg p m (locs.getD i 0) → ∃ k, k < locs.length ∧ l.length ≤ lg p m (locs.getD k 0) from fun hh => ⟨i, by rw [← HN.out]; exact hin, by rw [HLN.out]; exact hh⟩)
                  have hll := lg_lt H.out hLm.1 hLm.2
                  have HTR := hid hTr
                  have HDR := hid hDr
                  have HLR := hid hLr
                  have HALR := hid hAl
                  have HAMR := hid hAm
                  have HBR := hid hBr
                  clear hTr hDr hLr hAl hAm hBr hLm
                  generalize lg p m (locs.getD i 0) = x at *
                  generalize locs.getD i 0 = y at *
                  unfold fieldPtr at *
                  go_wp2_with fail
                  go_quiet ((go_at_call 65; exact (lo _).mono fun _ _ hh => ⟨hh.1, _, hh.2.symm⟩))
                  clear lo hlc
                  by_cases hxn : x < n
                  · have i1 : (0 : Int) ≤ (n : Int) - 1 - (x : Int) := by omega
                    have i2 : (n : Int) - 1 - (x : Int) < (n : Int) := by omega
                    have i3 : ((n : Int) - 1 - (x : Int)).toNat = n - 1 - x := by omega
                    have i4 : ¬ (n : Int) - 1 - (x : Int) < 0 := by omega
                    have hfl : (fixL p m l locs mags i).length = n := by rw [fix_len, HLN.out]
                    have hfi := fix_in H.out (locs := locs) HA.out HMI.out i
                    have HFL := hid hfl
                    have hpl : n - 1 - x < n := by omega
                    generalize fixL p m l locs mags i = fx at *
                    have hz := getD_lt H.out hfi (n - 1 - x)
                    have hg := getD_lt H.out HMI.out i
                    have hcz : wr.cell? ⟨tb, n - 1 - x, none⟩ = some (.int .i64 (fx.getD (n - 1 - x) 0 : Nat)) := by
                      rw [HTR.out.cell? (n - 1 - x), List.getElem?_append_left (by rw [ints_length, hfl]; exact hpl)]
                      simp [ints, List.getD, List.getElem?_eq_getElem (show n - 1 - x < fx.length by rw [hfl]; exact hpl)]
                    have hcg : wr.cell? ⟨BM, i, none⟩ = some (.int .i64 (mags.getD i 0 : Nat)) := by
                      rw [HAMR.out.cell? i]
                      simp [ints, List.getD, List.getElem?_eq_getElem (show i < mags.length by rw [HML.out]; exact hin)]
                    have HSET := hid (show (ints fx ++ rest).set (n - 1 - x) (.int .i64 (fx.getD (n - 1 - x) 0 ^^^ mags.getD i 0 : Nat)) = ints (fixL p m l locs mags (i + 1)) ++ rest from by
                      rw [HFS.out, List.set_append_left _ _ (by rw [ints_length, hfl]; exact hpl)]
                      simp [ints])
                    have fz := HTR.out.frozen (n - 1 - x)
                    have ao := fun W => addOr (fx.getD (n - 1 - x) 0) (mags.getD i 0) (by omega) (by omega) W
                    have HJ2 := hid (HJS.out hxn)
                    clear HFS HJS HJE hfl hfi
                    generalize fx.getD (n - 1 - x) 0 ^^^ mags.getD i 0 = zg at *
                    generalize fx.getD (n - 1 - x) 0 = z at *
                    generalize mags.getD i 0 = mg at *
                    generalize hw4 : wr.drewN _ = w4 at *
                    have hcz4 : w4.cell? ⟨tb, n - 1 - x, none⟩ = some (.int .i64 (z : Nat)) := by rw [← hw4]; exact hcz
                    have hcg4 : w4.cell? ⟨BM, i, none⟩ = some (.int .i64 (mg : Nat)) := by rw [← hw4]; exact hcg
                    have fz4 : w4.frozen? ⟨tb, n - 1 - x, none⟩ = false := by rw [← hw4]; exact fz
                    have HTR4 := hid (show Arr w4 tb 3 (ints fx ++ rest) from by rw [← hw4]; exact HTR.out.drewN _)
                    have HDR4 := hid (show Arr w4 D 92 [.pointer (some ⟨g, 0, none⟩)] from by rw [← hw4]; exact HDR.out.drewN _)
                    have HLR4 := hid (show IsLog w4 BL g p m from by rw [← hw4]; exact HLR.out.drewN _)
                    have HALR4 := hid (show Arr w4 Bl 3 (ints locs) from by rw [← hw4]; exact HALR.out.drewN _)
                    have HAMR4 := hid (show Arr w4 BM 3 (ints mags) from by rw [← hw4]; exact HAMR.out.drewN _)
                    have HBR4 := hid (show Below B0 w w4 from by rw [← hw4]; exact below_drewN HBR.out _)
                    clear hw4 hcz hcg fz HTR HDR HLR HALR HAMR HBR hDc
                    go_wp2_with fail
                    go_region_with ((first | (go_at_call 32; ((with_reducible refine (ao _).mono ?_); rintro e w6 ⟨rfl, rfl⟩)) | (go_at_call 32; ((refine (ao _).mono ?_); rintro e w6 ⟨rfl, rfl⟩))))
                    all_goals (
                      go_wp2_with fail
                      go_roundw
                      case rel =>
                        refine ⟨i + 1, by omega, by go_num, HJ2, ?_, (HDR4.out.drewN _).far (by simp; omega) _, (HLR4.out.drewN _).far (by simpa using htB) _, (HALR4.out.drewN _).far (by simp; omega) _, (HAMR4.out.drewN _).far (by simp; omega) _, (below_drewN HBR4.out _).setCell (by simpa using hB0) _⟩
                        rw [← HSET.out]
                        exact (HTR4.out.drewN _).set _ _
                      case measure => simp [intOf]; omega)
                  · have i4 : (n : Int) - 1 - (x : Int) < 0 := by omega
                    have HER := hid (HRES.out none (.inl ⟨HJE.out (by omega), rfl⟩))
                    go_wp2_with fail
                    refine (newRSExc _ _).mono ?_
                    rintro e w5 ⟨⟨u5, rfl⟩, rfl⟩
                    go_wp2_with fail
                    go_ret
                    exact ⟨below_drewN HBR.out _, none, HER.out, .inl ⟨rfl, _, rfl⟩⟩
                · obtain rfl : i = N := by omega
                  have hin' : ¬ (i : Int) < (i : Int) := by omega
                  have HER := hid (HRES.out (some (fixL p m l locs mags i)) (.inr ⟨by rw [← HN.out]; exact HJ.out, by rw [← HN.out]⟩))
                  have HTR := hid hTr
                  clear hTr hDr hLr hAl hAm
                  go_wp2_with fail
                  go_ret
                  exact ⟨hBr, _, HER.out, .inr ⟨_, rfl, rfl, HTR.out⟩⟩
end Go.Proofs.Ytpkmknbmjlnkgaa
