/- The walk of the decoder's Euclidean algorithm. -/
import Derived.Test.YtpkmknbmjlnkgaaEucL
import Derived.Test.YtpkmknbmjlnkgaaDivW
namespace Go.Proofs.Ytpkmknbmjlnkgaa
open Go.RowKit
set_option linter.unusedVariables false

/-- What the algorithm ends with: a state whose rest is short; an error, or the two polynomials. -/
def EucOut (p m R : Nat) (F : Value) (a b : List Nat) (w : World) (e : Ending) (w' : World) : Prop :=
  ∃ rl r tl t, Eucs p m R a b rl r tl t ∧ 2 * (r.length - 1) < R ∧ Below w.heap.size w w' ∧
    ((t.getD (t.length - 1) 0 = 0 ∧ ∃ v, e = .returned (.tuple #[.pointer none, .pointer none, .iface 108 v])) ∨
     (t.getD (t.length - 1) 0 ≠ 0 ∧ ∃ qs qo Bs Bo, e = .returned (.tuple #[fieldPtr qs, fieldPtr qo, .nilIface]) ∧ IsPoly w' Bs qs F (tidy (scaleBy p m (inv p m (t.getD (t.length - 1) 0)) t)) ∧ IsPoly w' Bo qo F (tidy (scaleBy p m (inv p m (t.getD (t.length - 1) 0)) r))))

theorem newRSExc (v : Value) (w : World) : Calls Try.prog 66 #[v] w fun e w' => (∃ u, e = .returned (.iface 108 u)) ∧ w = w' := by
  go_enter Try.func66, Try.ntmps66
  go_wp2
  go_ret
  exact ⟨⟨_, rfl⟩, rfl⟩

attribute [local go_sem ↓] Go.wp_at_zero Go.wp_at_succ
set_option maxRecDepth 100000 in
set_option maxHeartbeats 8000000 in
theorem euclid (D qa qb g p m base B1 B2 R : Nat) (a b : List Nat) (w : World) (h : IsGF p m) (hF : IsField w g p m base) (hD : w.cell? ⟨D, 0, none⟩ = some (fieldPtr g)) (hP1 : IsPoly w B1 qa (fieldPtr g) a) (hP2 : IsPoly w B2 qb (fieldPtr g) b) (hR : 2 ≤ R) (hR2 : R ≤ 100) (hGa : Good m (R + 1) a) (hal : a.length = R + 1) (ha0 : a.getD 0 0 ≠ 0) (hGb : Good m R b) :
    Calls Try.prog 62 #[fieldPtr D, fieldPtr qa, fieldPtr qb, .int .i64 R] w (EucOut p m R (fieldPtr g) a b w) := by
  have hN1 : 2 ^ m ≤ 4096 := Nat.pow_le_pow_right (n := 2) (by omega) h.small
  have hDl : D < w.heap.size := World.block_lt_of_cell? w _ hD
  have HB := hid (fun rl r tl t hE => eucs_bound h hR hGa ha0 hal hGb (rl := rl) (r := r) (tl := tl) (t := t) hE)
  have hb1 := hGb.2.2.1
  have hbn := hGb.2.2.2
  have dga := degree qa B1 _ a w hP1 (by omega) (by omega)
  have dgb := degree qb B2 _ b w hP2 hb1 (by omega)
  have hlt0 : ¬ ((a.length - 1 : Nat) : Int) < ((b.length - 1 : Nat) : Int) := by omega
  have gz := getZero g p m base w hF
  have HF := hid hF
  have HDC := hid hD
  have HP1 := hid hP1
  have HP2 := hid hP2
  have H := hid h
  have HS0 := hid (show Eucs p m R a b a b [0] [1] from .start)
  clear hF hP1 hP2 h hGa hal ha0 hGb
  unfold fieldPtr at *
  go_enter Try.func62, Try.ntmps62
  go_wp2_with fail
  refine dga.mono ?_
  rintro e w1 ⟨rfl, rfl⟩
  go_wp2_with fail
  refine dgb.mono ?_
  rintro e w1 ⟨rfl, rfl⟩
  clear dga dgb
  go_wp2_with fail
  refine gz.mono ?_
  rintro e w1 ⟨qz, Bz, rfl, hz, hb⟩
  have HZ := hid hz
  have HB1 := hid hb
  have hD1 := (HB1.out.cell (p := ⟨D, 0, none⟩) hDl).trans HDC.out
  have go1 := getOne g p m base w1 (HF.out.below hb)
  clear hz hb gz hD
  unfold fieldPtr at *
  go_wp2_with fail
  refine go1.mono ?_
  rintro e w2 ⟨q1, Bo, rfl, ho, hb2⟩
  have HO := hid ho
  have HZ2 := hid (HZ.out.below hb2)
  have HB2 := hid (HB1.out.trans (hb2.mono HB1.out.size))
  clear ho hb2 go1 hD1 HZ HB1
  unfold fieldPtr at *
  go_wp2_with fail
  go_loopg [11, 12, 13, 14] (b.length) (fun gk lv rv tlv tv wr => ∃ (ql qr qtl qt Bl Br Btl Bt : Nat) (rl r tl t : List Nat), lv = .pointer (some ⟨ql, 0, none⟩) ∧ rv = .pointer (some ⟨qr, 0, none⟩) ∧ tlv = .pointer (some ⟨qtl, 0, none⟩) ∧ tv = .pointer (some ⟨qt, 0, none⟩) ∧
    IsPoly wr Bl ql (.pointer (some ⟨g, 0, none⟩)) rl ∧ IsPoly wr Br qr (.pointer (some ⟨g, 0, none⟩)) r ∧ IsPoly wr Btl qtl (.pointer (some ⟨g, 0, none⟩)) tl ∧ IsPoly wr Bt qt (.pointer (some ⟨g, 0, none⟩)) t ∧ Eucs p m R a b rl r tl t ∧ Hid (r.length ≤ gk) ∧ Below w.heap.size w wr)
  case atStart => exact ⟨qa, qb, qz, q1, B1, B2, Bz, Bo, a, b, [0], [1], rfl, rfl, rfl, rfl, HP1.out.below HB2.out, HP2.out.below HB2.out, HZ2.out, HO.out, HS0.out, hid (Nat.le_refl _), HB2.out⟩
  case round =>
    clear HS0 HO HZ2 HB2 HP1 HP2 hlt0
    obtain ⟨ql, qr, qtl, qt, Bl, Br, Btl, Bt, rl, r, tl, t, rfl, rfl, rfl, rfl, hPl, hPr, hPtl, hPt, hE, HM, hBw⟩ := hrel
    have hEB := HB.out rl r tl t hE
    have hr1 := hEB.gr.2.2.1
    have hrn := hEB.gr.2.2.2
    have dgr := degree qr Br _ r wr hPr hr1 (by omega)
    have HE := hid hE
    have HEB := hid hEB
    have HPL := hid hPl
    have HPR := hid hPr
    have HPTL := hid hPtl
    have HPT := hid hPt
    have HBW := hid hBw
    have hDw := (hBw.cell (p := ⟨D, 0, none⟩) hDl).trans HDC.out
    clear hE hEB hPl hPr hPtl hPt hBw
    unfold fieldPtr at *
    by_cases hgo : R ≤ 2 * (r.length - 1)
    · have hgo' : (R : Int) ≤ 2 * ((r.length - 1 : Nat) : Int) := by omega
      have hr0 : r.getD 0 0 ≠ 0 := by
        have := (tidy_cases r).2.2.1
        rw [HEB.out.gr.1] at this
        rcases this with h1 | h1
        · exact h1
        · omega
      have izr := isZeroF qr Br _ r wr HPR.out hr1 (by omega) hr0
      have gz2 := getZero g p m base wr (HF.out.below HBW.out)
      have HR0 := hid hr0
      have HGO := hid hgo
      have HGR := hid HEB.out.gr
      have HGL := hid HEB.out.grl
      have hrl1 := HEB.out.grl.2.2.1
      have hrln := HEB.out.grl.2.2.2
      have HRLT := hid HEB.out.rlt
      have HGT := hid HEB.out.gt
      have HGTL := hid HEB.out.gtl
      clear hr0 hgo
      unfold fieldPtr at *
      go_wp2_with fail
      refine dgr.mono ?_
      rintro e w3 ⟨rfl, rfl⟩
      clear dgr
      go_wp2_with fail
      refine izr.mono ?_
      rintro e w3 ⟨rfl, rfl⟩
      clear izr
      go_wp2_with fail
      refine gz2.mono ?_
      rintro e w4 ⟨qz4, Bz4, rfl, hz4, hb4⟩
      clear gz2
      have HQ0 := hid hz4
      have HB4 := hid (HBW.out.trans (hb4.mono HBW.out.size))
      have HPL4 := hid (HPL.out.below hb4)
      have HPR4 := hid (HPR.out.below hb4)
      have HPTL4 := hid (HPTL.out.below hb4)
      have HPT4 := hid (HPT.out.below hb4)
      have hDw4 := (HB4.out.cell (p := ⟨D, 0, none⟩) hDl).trans HDC.out
      clear hz4 hb4 hDw HPL HPR HPTL HPT HBW
      have dgr4 := degree qr Br _ r w4 HPR4.out hr1 (by omega)
      unfold fieldPtr at *
      go_wp2_with fail
      refine dgr4.mono ?_
      rintro e w5 ⟨rfl, rfl⟩
      clear dgr4
      have gcr := getCoefficient qr (r.length - 1) Br _ r w4 HPR4.out (by omega) (by omega)
      rw [show r.length - 1 - (r.length - 1) = 0 from by omega] at gcr
      have hr0lt := getD_lt H.out HGR.out.2.1 0
      have hr0p : 0 < r.getD 0 0 := Nat.pos_of_ne_zero HR0.out
      have ivr := fun n => inverse g p m base (r.getD 0 0) (w4.drewN n) H.out (HF.out.below (below_drewN HB4.out n)) hr0p hr0lt
      have hivl := inv_lt H.out (r.getD 0 0)
      have hDn := fun n => (show (w4.drewN n).cell? ⟨D, 0, none⟩ = some (.pointer (some ⟨g, 0, none⟩)) from hDw4)
      unfold fieldPtr at *
      generalize hR0e : r.getD 0 0 = R0 at *
      have HR0E := hid hR0e
      clear hR0e hr0p
      go_wp2_with fail
      refine gcr.mono ?_
      rintro e w5 ⟨rfl, n5, rfl⟩
      clear gcr
      have hDn5 := hDn n5
      go_wp2_with fail
      refine (ivr _).mono ?_
      rintro e w6 ⟨rfl, n6, rfl⟩
      clear ivr hDn5 hDn hDw4
      have HB6 := hid (below_drewN (below_drewN HB4.out n5) n6)
      have HQ6 := hid (show IsPoly ((w4.drewN n5).drewN n6) Bz4 qz4 _ [0] from HQ0.out)
      have HPL6 := hid (show IsPoly ((w4.drewN n5).drewN n6) Bl ql _ rl from HPL4.out)
      have HPR6 := hid (show IsPoly ((w4.drewN n5).drewN n6) Br qr _ r from HPR4.out)
      have HPTL6 := hid (show IsPoly ((w4.drewN n5).drewN n6) Btl qtl _ tl from HPTL4.out)
      have HPT6 := hid (show IsPoly ((w4.drewN n5).drewN n6) Bt qt _ t from HPT4.out)
      clear HQ0 HPL4 HPR4 HPTL4 HPT4 HB4
      generalize (w4.drewN n5).drewN n6 = w6 at *
      go_wp2_with fail
      have HD0 := hid (show Divs p m r [0] rl [0] rl from .refl)
      have HDG := hid (fun q r' hD => divs_good H.out (d := r) (r0 := rl) ⟨HGR.out.1, HGR.out.2.1, HGR.out.2.2.1, by have := HRLT.out; omega⟩ (by rw [HR0E.out]; exact HR0.out) ⟨HGL.out.1, HGL.out.2.1, HGL.out.2.2.1, Nat.le_refl _⟩ (q := q) (r := r') hD)
      go_loopg [12, 17] (meas rl) (fun gk2 rv qv wx => ∃ (qc qd Bc Bd : Nat) (lr lq : List Nat), rv = .pointer (some ⟨qc, 0, none⟩) ∧ qv = .pointer (some ⟨qd, 0, none⟩) ∧ IsPoly wx Bc qc (.pointer (some ⟨g, 0, none⟩)) lr ∧ IsPoly wx Bd qd (.pointer (some ⟨g, 0, none⟩)) lq ∧ Divs p m r [0] rl lq lr ∧ Hid (meas lr ≤ gk2) ∧ Below w6.heap.size w6 wx)
      case atStart => exact ⟨ql, qz4, Bl, Bz4, rl, [0], rfl, rfl, HPL6.out, HQ6.out, HD0.out, hid (Nat.le_refl _), Below.refl _ _⟩
      case round =>
        clear HD0 HQ6 HPL6
        obtain ⟨qc, qd, Bc, Bd, lr, lq, rfl, rfl, hPc, hPd, hDv, HM2, hBx⟩ := hrel
        obtain ⟨gl, gq⟩ := HDG.out lq lr hDv
        have l1 := gl.2.2.1
        have ln := gl.2.2.2
        have HPC := hid hPc
        have HPD := hid hPd
        have HDV := hid hDv
        have HGLR := hid gl
        have HGLQ := hid gq
        have HBX := hid (HB6.out.trans (hBx.mono HB6.out.size))
        have HBX6 := hid hBx
        have hDx := (HBX.out.cell (p := ⟨D, 0, none⟩) hDl).trans HDC.out
        have dgc := degree qc Bc _ lr wr hPc l1 (by omega)
        have dgq := degree qr Br _ r wr (HPR6.out.below hBx) hr1 (by omega)
        by_cases hlt : lr.length < r.length
        · have hlt' : ¬ ((r.length - 1 : Nat) : Int) ≤ ((lr.length - 1 : Nat) : Int) := by omega
          have HFI := hid (show lr.length < r.length ∨ lr = [0] from .inl hlt)
          have HLE := hid hlt
          unfold fieldPtr at *
          go_wp2_with fail
          refine dgc.mono ?_
          rintro e w9 ⟨rfl, rfl⟩
          go_wp2_with fail
          refine dgq.mono ?_
          rintro e w9 ⟨rfl, rfl⟩
          clear hPc hPd hDv hBx gl gq dgc dgq
          have HEN := hid (Eucs.step HE.out HGO.out (by rw [HR0E.out]; exact HR0.out) HDV.out HFI.out)
          have hq2 := HGLQ.out.2.2.2
          have pm := polyMul qd qt g p m base Bd Bt lq t wr H.out (HF.out.below HBX.out) HPD.out (HPT6.out.below HBX6.out) HGLQ.out.2.2.1 HGT.out.2.2.1 (by omega) (by have := HGT.out.2.2.2; omega) HGLQ.out.2.1 HGT.out.2.1 HGLQ.out.1 HGT.out.1
          have HGP := hid (show Good m 1000 (tidy (prodL p m lq t)) from good_tidy H.out (prodL_in H.out HGLQ.out.2.1 HGT.out.2.1) (by rw [prodL_len]; have := HGLQ.out.2.2.1; have := HGT.out.2.2.1; omega) (by rw [prodL_len]; have := HGT.out.2.2.2; omega))
          generalize tidy (prodL p m lq t) = P1 at *
          unfold fieldPtr at *
          go_wp2_with fail
          refine pm.mono ?_
          rintro e w7 ⟨q7, B7, rfl, hP7, hb7⟩
          clear pm
          have ad := addSub q7 qtl g p m base B7 Btl P1 tl w7 H.out hP7 ((HPTL6.out.below HBX6.out).below hb7) HGP.out.2.2.1 HGTL.out.2.2.1 (by have := HGP.out.2.2.2; omega) (by have := HGTL.out.2.2.2; omega) HGP.out.2.1 HGTL.out.2.1 HGP.out.1 HGTL.out.1
          have HB7 := hid hb7
          clear hP7 hb7
          generalize tidy (addL P1 tl) = t2 at *
          unfold fieldPtr at *
          go_wp2_with fail
          refine ad.mono ?_
          rintro e w8 ⟨q8, B8, rfl, hP8, hb8⟩
          clear ad
          have HB68 := hid (HB7.out.trans (hb8.mono HB7.out.size))
          have HP8 := hid hP8
          have HPC8 := hid (HPC.out.below HB68.out)
          have HPR8 := hid ((HPR6.out.below HBX6.out).below HB68.out)
          have HPT8 := hid ((HPT6.out.below HBX6.out).below HB68.out)
          have HB8 := hid (HBX.out.trans (HB68.out.mono HBX.out.size))
          have d1 := degree qc Bc _ lr w8 HPC8.out l1 (by omega)
          have d2 := degree qr Br _ r w8 HPR8.out hr1 (by omega)
          have hltf : ¬ ((r.length - 1 : Nat) : Int) ≤ ((lr.length - 1 : Nat) : Int) := by
            have := HLE.out
            omega
          clear hP8 hb8
          unfold fieldPtr at *
          go_wp2_with fail
          refine d1.mono ?_
          rintro e w9 ⟨rfl, rfl⟩
          go_wp2_with fail
          refine d2.mono ?_
          rintro e w9 ⟨rfl, rfl⟩
          clear d1 d2
          go_wp2_with fail
          go_roundg (lr.length)
          case measure => have := HM.out; have := HLE.out; omega
          case rel => exact ⟨qr, qc, qt, q8, Br, Bc, Bt, B8, r, lr, t, t2, rfl, rfl, rfl, rfl, HPR8.out, HPC8.out, HPT8.out, HP8.out, HEN.out, hid (Nat.le_refl _), HB8.out⟩
        · have hlt' : ((r.length - 1 : Nat) : Int) ≤ ((lr.length - 1 : Nat) : Int) := by omega
          by_cases hz : lr.getD 0 0 = 0
          · exfalso
            have hlo := tidy_zero gl.1 l1 hz
            have := HGO.out
            rw [hlo] at hlt
            simp at hlt
            omega
          · have izc := isZeroF qc Bc _ lr wr hPc l1 (by omega) hz
            have dgcN := fun n => degree qc Bc _ lr (wr.drewN n) hPc l1 (by omega)
            have hHead : r.getD 0 0 ≠ 0 := by rw [HR0E.out]; exact HR0.out
            have HDT := hid (div_term H.out (r := lr) (d := r) hr1 hz hHead (by omega) gl.2.1 HGR.out.2.1)
            have HST := hid (Divs.step hDv hz (by omega))
            have hc0 := getD_lt H.out gl.2.1 0
            have HMM := hid (fun t e1 e2 => meas_lt (r := lr) (t := t) hz e1 l1 e2)
            have gcq : ∀ n, Calls Try.prog 49 #[fieldPtr qc, .int .i64 ((lr.length - 1 : Nat) : Int)] (wr.drewN n) (DrewOut (.int .i64 (lr.getD 0 0 : Nat)) (wr.drewN n)) := fun n => by
              have := getCoefficient qc (lr.length - 1) Bc _ lr (wr.drewN n) hPc (by omega) (by omega)
              rwa [show lr.length - 1 - (lr.length - 1) = 0 from by omega] at this
            rw [HR0E.out] at HDT HST
            have muq := fun n => multiply g p m base (lr.getD 0 0) (inv p m R0) (wr.drewN n) H.out (HF.out.below (below_drewN HBX.out n)) hc0 hivl
            have hsl := gm_lt H.out hc0 (inv p m R0)
            obtain ⟨dd, hdd⟩ : ∃ dd, dd = lr.length - r.length := ⟨_, rfl⟩
            have hdi : ((lr.length - 1 : Nat) : Int) - ((r.length - 1 : Nat) : Int) = (dd : Int) := by omega
            have hddl : dd ≤ 1000 := by omega
            have HDI := hid hdi
            rw [← hdd] at HDT HST
            generalize gm p m (lr.getD 0 0) (inv p m R0) = s at *
            clear hPc hPd hDv hBx gl gq hdd hz hHead hdi
            generalize lr.getD 0 0 = c0 at *
            unfold fieldPtr at *
            go_wp2_with fail
            refine dgc.mono ?_
            rintro e w9 ⟨rfl, rfl⟩
            go_wp2_with fail
            refine dgq.mono ?_
            rintro e w9 ⟨rfl, rfl⟩
            go_wp2_with fail
            refine izc.mono ?_
            rintro e w9 ⟨rfl, rfl⟩
            clear izc
            go_wp2_with fail
            refine dgc.mono ?_
            rintro e w9 ⟨rfl, rfl⟩
            go_wp2_with fail
            refine dgq.mono ?_
            rintro e w9 ⟨rfl, rfl⟩
            clear dgc dgq
            go_wp2_with fail
            go_quiet ((first | (go_at_call 31; exact (muq _).mono fun _ _ hh => ⟨hh.1, by obtain ⟨n2, hn2⟩ := hh.2; exact ⟨_, hn2.trans (World.drewN_drewN _ _ _)⟩⟩) | (go_at_call 49; exact (gcq _).mono fun _ _ hh => ⟨hh.1, by obtain ⟨n2, hn2⟩ := hh.2; exact ⟨_, hn2.trans (World.drewN_drewN _ _ _)⟩⟩) | (go_at_call 69; exact (dgcN _).mono fun _ _ hh => ⟨hh.1, _, hh.2.symm⟩)))
            clear gcq muq dgcN
            generalize hw4 : wr.drewN _ = w4 at *
            have HB4 := hid (show Below w6.heap.size w6 w4 from by rw [← hw4]; exact below_drewN HBX6.out _)
            have HQ4 := hid (show IsPoly w4 Bd qd _ lq from by rw [← hw4]; exact HPD.out)
            have HR4 := hid (show IsPoly w4 Bc qc _ lr from by rw [← hw4]; exact HPC.out)
            clear hw4 HPC HPD HBX HBX6 hDx
            have FB := hid (fun W (hW : Below w6.heap.size w6 W) => HF.out.below (HB6.out.trans (hW.mono HB6.out.size)))
            have hD4 := ((HB6.out.trans (HB4.out.mono HB6.out.size)).cell (p := ⟨D, 0, none⟩) hDl).trans HDC.out
            have nr1 : lr.length - 1 ≤ 1000 := by omega
            have nd1 : r.length - 1 ≤ 1000 := by omega
            obtain ⟨t1, t2, t3⟩ := HDT.out
            have HTI := hid (shiftl_in (scale_in (c := s) H.out HGR.out.2.1) dd)
            have HM3 := hid (HMM.out _ t2 t3)
            have HGT := hid (show Good m 1000 (shiftl (scaleBy p m s r) dd) from ⟨t1, HTI.out, by rw [t2]; omega, by rw [t2]; omega⟩)
            have bm : Calls Try.prog 40 #[fieldPtr g, .int .i64 (((lr.length - 1 : Nat) : Int) - ((r.length - 1 : Nat) : Int)), .int .i64 s] w4 (PtrOk (fieldPtr g) (tidy (monoL s dd)) w4) := by
              rw [HDI.out]
              exact buildMonoB g p m base s dd w4 (FB.out _ HB4.out) (by omega) (by omega)
            have mm : ∀ W, Below w6.heap.size w6 W → Calls Try.prog 39 #[fieldPtr qr, .int .i64 (((lr.length - 1 : Nat) : Int) - ((r.length - 1 : Nat) : Int)), .int .i64 s] W (PtrOk (fieldPtr g) (shiftl (scaleBy p m s r) dd) W) := by
              intro W hW
              rw [HDI.out, ← t1]
              exact mulMono qr g p m base Br s dd r W H.out (FB.out _ hW) (HPR6.out.below hW) hr1 (by omega) HGR.out.2.1 hsl (by omega)
            have MM := hid mm
            have HGM := hid (show Good m 1002 (tidy (monoL s dd)) from good_tidy H.out (mono_in H.out hsl dd) (by simp [monoL]) (by simp [monoL]; omega))
            clear t1 t2 t3 HDT HMM HTI mm
            generalize shiftl (scaleBy p m s r) dd = T at *
            generalize tidy (monoL s dd) = M at *
            generalize hnr : lr.length - 1 = nr at *
            generalize hnd : r.length - 1 = nd at *
            have HNR := hid hnr
            have HND := hid hnd
            clear hnr hnd HDI
            unfold fieldPtr at *
            go_wp2_with fail
            refine bm.mono ?_
            rintro e w5 ⟨qm, Bm, rfl, hM, hb5⟩
            clear bm hD4
            have HM5 := hid hM
            have HB5 := hid (HB4.out.trans (hb5.mono HB4.out.size))
            have HQ5 := hid (HQ4.out.below hb5)
            have HR5 := hid (HR4.out.below hb5)
            clear hM hb5 HB4 HQ4 HR4
            have ad := addSub qd qm g p m base Bd Bm lq M w5 H.out HQ5.out HM5.out HGLQ.out.2.2.1 HGM.out.2.2.1 (by have := HGLQ.out.2.2.2; omega) (by have := HGM.out.2.2.2; omega) HGLQ.out.2.1 HGM.out.2.1 HGLQ.out.1 HGM.out.1
            generalize tidy (addL lq M) = lq2 at *
            unfold fieldPtr at *
            go_wp2_with fail
            refine ad.mono ?_
            rintro e w7 ⟨qq2, Bq2, rfl, hQ2, hb7⟩
            clear ad
            have HQ7 := hid hQ2
            have HB7 := hid (HB5.out.trans (hb7.mono HB5.out.size))
            have HR7 := hid (HR5.out.below hb7)
            clear hQ2 hb7 HB5 HQ5 HR5 HM5
            have mm7 := MM.out w7 HB7.out
            go_wp2_with fail
            refine mm7.mono ?_
            rintro e w8 ⟨qt2, Bt2, rfl, hT, hb8⟩
            clear mm7 MM
            have HT8 := hid hT
            have HQ8 := hid (HQ7.out.below hb8)
            have HB8 := hid (HB7.out.trans (hb8.mono HB7.out.size))
            have HR8 := hid (HR7.out.below hb8)
            clear hT hb8 HB7 HQ7 HR7
            have ad := addSub qc qt2 g p m base Bc Bt2 lr T w8 H.out HR8.out HT8.out l1 HGT.out.2.2.1 (by omega) (by have := HGT.out.2.2.2; omega) HGLR.out.2.1 HGT.out.2.1 HGLR.out.1 HGT.out.1
            generalize tidy (addL lr T) = lr2 at *
            unfold fieldPtr at *
            go_wp2_with fail
            refine ad.mono ?_
            rintro e w9 ⟨qr2, Br2, rfl, hR2, hb9⟩
            clear ad
            have HQ9 := hid (HQ8.out.below hb9)
            have HR9 := hid hR2
            have HB9 := hid (HB8.out.trans (hb9.mono HB8.out.size))
            clear hR2 hb9 HB8 HQ8 HR8 HT8
            go_wp2_with fail
            go_roundg (meas lr2)
            case measure => have := HM3.out.1; have := HM2.out; omega
            case rel => exact ⟨qr2, qq2, Br2, Bq2, lr2, lq2, rfl, rfl, HR9.out, HQ9.out, HST.out, hid (Nat.le_refl _), HB9.out⟩
    · have hgo' : ¬ (R : Int) ≤ 2 * ((r.length - 1 : Nat) : Int) := by omega
      have hfin : 2 * (r.length - 1) < R := by omega
      have ht1 := HEB.out.gt.2.2.1
      have htn := HEB.out.gt.2.2.2
      have gct : Calls Try.prog 49 #[fieldPtr qt, .int .i64 0] wr (DrewOut (.int .i64 (t.getD (t.length - 1) 0 : Nat)) wr) := getCoefficient qt 0 Bt _ t wr HPT.out (by omega) (by omega)
      have ht0 := getD_lt H.out HEB.out.gt.2.1 (t.length - 1)
      have HFIN := hid hfin
      have FW := hid (fun n => HF.out.below (below_drewN HBW.out n))
      clear hgo hfin
      unfold fieldPtr at *
      by_cases hz : t.getD (t.length - 1) 0 = 0
      · have HZ := hid hz
        rw [hz] at gct
        simp only [Int.natCast_zero] at gct
        clear hz
        go_wp2_with fail
        refine dgr.mono ?_
        rintro e w3 ⟨rfl, rfl⟩
        go_wp2_with fail
        refine gct.mono ?_
        rintro e w4 ⟨rfl, n4, rfl⟩
        clear gct dgr
        go_wp2_with fail
        refine (newRSExc _ _).mono ?_
        rintro e w5 ⟨⟨u5, rfl⟩, rfl⟩
        go_wp2_with fail
        go_ret3
        exact ⟨rl, r, tl, t, HE.out, HFIN.out, below_drewN HBW.out _, .inl ⟨HZ.out, _, rfl⟩⟩
      · have HZ := hid hz
        have hT0 : (((t.getD (t.length - 1) 0 : Nat) : Int) == 0) = false := by rw [beq_eq_false_iff_ne]; omega
        have hpos : 0 < t.getD (t.length - 1) 0 := by omega
        have hil := inv_lt H.out (t.getD (t.length - 1) 0)
        have iv := fun n => inverse g p m base (t.getD (t.length - 1) 0) (wr.drewN n) H.out (FW.out n) hpos ht0
        have mt : ∀ W, Below wr.heap.size wr W → Calls Try.prog 38 #[fieldPtr qt, .int .i64 (inv p m (t.getD (t.length - 1) 0) : Nat)] W (PtrOut (fieldPtr g) (tidy (scaleBy p m (inv p m (t.getD (t.length - 1) 0)) t)) W) := fun W hW => multiplyBy qt g p m base Bt _ t W H.out (HF.out.below (HBW.out.trans (hW.mono HBW.out.size))) (HPT.out.below hW) ht1 (by omega) HEB.out.gt.2.1 HEB.out.gt.1 hil
        have mr : ∀ W, Below wr.heap.size wr W → Calls Try.prog 38 #[fieldPtr qr, .int .i64 (inv p m (t.getD (t.length - 1) 0) : Nat)] W (PtrOut (fieldPtr g) (tidy (scaleBy p m (inv p m (t.getD (t.length - 1) 0)) r)) W) := fun W hW => multiplyBy qr g p m base Br _ r W H.out (HF.out.below (HBW.out.trans (hW.mono HBW.out.size))) (HPR.out.below hW) hr1 (by omega) HEB.out.gr.2.1 HEB.out.gr.1 hil
        have MT := hid mt
        have MR := hid mr
        have hDn : ∀ n, (wr.drewN n).cell? ⟨D, 0, none⟩ = some (.pointer (some ⟨g, 0, none⟩)) := fun n => hDw
        have b0 := hid (Below.refl wr.heap.size wr)
        generalize hiv : inv p m (t.getD (t.length - 1) 0) = iv0 at *
        generalize htt : t.getD (t.length - 1) 0 = t0 at *
        have HIV := hid hiv
        have HTT := hid htt
        clear mt mr hz hpos hil ht0 hiv htt
        unfold fieldPtr at *
        go_wp2_with fail
        refine dgr.mono ?_
        rintro e w3 ⟨rfl, rfl⟩
        go_wp2_with fail
        refine gct.mono ?_
        rintro e w4 ⟨rfl, n4, rfl⟩
        clear gct dgr
        have hDn4 := hDn n4
        go_wp2_with fail
        refine (iv _).mono ?_
        rintro e w5 ⟨rfl, n5, rfl⟩
        have hb5 := hid (below_drewN b0.out (n4 + n5))
        clear iv hDn hDn4
        go_wp2_with fail
        refine (MT.out _ hb5.out).mono ?_
        rintro e w6 ⟨qs, Bs, rfl, hPs, hb6⟩
        have hb6' := hid (hb5.out.trans (hb6.mono hb5.out.size))
        have HPS := hid hPs
        clear hPs hb6 hb5
        go_wp2_with fail
        refine (MR.out _ hb6'.out).mono ?_
        rintro e w7 ⟨qo, Bo, rfl, hPo, hb7⟩
        have HPO := hid hPo
        have HPS7 := hid (HPS.out.below hb7)
        have HB7 := hid (HBW.out.trans ((hb6'.out.trans (hb7.mono hb6'.out.size)).mono HBW.out.size))
        clear hPo hb7
        go_wp2_with fail
        go_ret3
        exact ⟨rl, r, tl, t, HE.out, HFIN.out, HB7.out, .inr ⟨by rw [HTT.out]; exact HZ.out, qs, qo, Bs, Bo, rfl, by rw [HTT.out, HIV.out]; exact HPS7.out, by rw [HTT.out, HIV.out]; exact HPO.out⟩⟩
end Go.Proofs.Ytpkmknbmjlnkgaa
