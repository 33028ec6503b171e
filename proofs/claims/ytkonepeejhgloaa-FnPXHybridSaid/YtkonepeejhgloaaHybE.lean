/- impl.BlackMatrix by a hybrid binarizer; FnPXHybrid: the walk of the law. -/
import Derived.Test.YtkonepeejhgloaaHybD
import Derived.Test.YtkonepeejhgloaaHybA
namespace Go.Proofs.Ytkonepeejhgloaa
open Go.RowKit
set_option linter.unusedVariables false
set_option linter.unusedSimpArgs false

theorem asGlob (v : Value) (w : World) : (Instr.typeAssert (.iface 68 v) 57 68 false).run Try.prog w = .ok v w := by kernel_rfl
def Hybr (w : World) (x r : Nat) : Prop := Arr w x 91 [.pointer (some ⟨r, 0, none⟩), .pointer none]
def HybOut (q : Nat) (w : World) (e : Ending) (w' : World) : Prop :=
  ∃ x r G LA, e = .returned (.iface 89 (.pointer (some ⟨x, 0, none⟩))) ∧ w.heap.size ≤ x ∧ r < x ∧ Hybr w' x r ∧ Glob w' r q LA 0 G ∧ Below w.heap.size w w'
set_option maxRecDepth 20000 in
set_option maxHeartbeats 4000000 in
theorem newHybrid (q : Nat) (w : World) : Calls Try.prog 30 #[.iface 78 (.pointer (some ⟨q, 0, none⟩))] w (HybOut q w) := by
  have ng := newGlob q w
  have ag := asGlob
  go_enter Try.func30, Try.ntmps30
  go_wp2_with fail
  refine ng.mono ?_
  rintro e w1 ⟨r, G, LA, rfl, hr, hG, hGr, hGl, hA, hb⟩
  have hrl := hGl.lt
  have P := hid (Arr.of_new w1 91 #[.pointer (some ⟨r, 0, none⟩), .pointer none])
  have HG := hid (Arr.alloc hGl (.cells #[.pointer (some ⟨r, 0, none⟩), .pointer none] 91))
  have HB := hid (hb.alloc hb.size (.cells #[.pointer (some ⟨r, 0, none⟩), .pointer none] 91))
  have hbs := hb.size
  clear ng hGl hA hb
  go_wp2_with fail
  go_ret
  exact ⟨w1.heap.size, r, G, LA, rfl, hbs, hrl, P.out, HG.out, HB.out⟩

theorem metHB (a : Addr) (w : World) : (method 244 89 (.pointer (some a)) "GetBlackMatrix").run Try.prog w = .ok (84, .pointer (some a)) w := by kernel_rfl
theorem and7 (W : Nat) (h : W ≤ 120) : bits .and .i64 (W : Int) 7 = ((W % 8 : Nat) : Int) := by
  have := i64_and W 7 (by omega) (by omega)
  rw [show W &&& 7 = W % 8 from Nat.and_two_pow_sub_one_eq_mod W 3] at this
  exact this

def GBMOut (B W H rs : Nat) (D : Nat → Nat → Bool) (w : World) (e : Ending) (w' : World) : Prop :=
  ∃ q2 g2 ws, e = .returned (.tuple #[.pointer (some ⟨q2, 0, none⟩), .nilIface]) ∧ IsMat w' q2 g2 93 87 W H rs ws D ∧ Below B w w'

set_option maxRecDepth 20000 in
set_option maxHeartbeats 16000000 in
theorem getBlackMatrix (B x r q g n cap W H rs lt G : Nat) (LA : Option Addr) (px : Nat → Nat) (D : Nat → Nat → Bool) (w : World) (hX : Hybr w x r) (hG : Glob w r q LA 0 G) (hP : Plan w q g W H n cap) (hO : ∀ k, k < n → w.cell? ⟨g, k, none⟩ = some (.int .u8 (px k : Nat))) (hg : g < w.heap.size) (hBx : B ≤ x)
    (hn : n = W * H) (hW1 : 40 ≤ W) (hW2 : W ≤ 120) (hH1 : 40 ≤ H) (hH2 : H ≤ 120) (hlt0 : 25 ≤ lt) (hlt : lt ≤ 255) (hrs : rs = (W + 31) / 32) (hpx : ∀ x y, x < W → y < H → px (y * W + x) = if D x y then 0 else lt) (hD : ∀ a b, D a b = true → a < W ∧ b < H) :
    Calls Try.prog 84 #[.pointer (some ⟨x, 0, none⟩)] w (GBMOut B W H rs D w) := by
  have hBs : B ≤ w.heap.size := Nat.le_of_lt (Nat.lt_of_le_of_lt hBx hX.lt)
  have hpx2 : ∀ k, k < n → px k = 0 ∨ px k = lt := fun k hk => by
    have hW0 : 0 < W := by omega
    have := hpx (k % W) (k / W) (Nat.mod_lt _ hW0) (Nat.div_lt_of_lt_mul (by rw [← hn]; exact hk))
    rw [Nat.mul_comm, Nat.div_add_mod] at this
    rw [this]
    split
    · exact .inl rfl
    · exact .inr rfl
  obtain ⟨sw, hsw⟩ : ∃ sw, sw = (W + 7) / 8 := ⟨_, rfl⟩
  obtain ⟨sh, hsh⟩ : ∃ sh, sh = (H + 7) / 8 := ⟨_, rfl⟩
  have gs := globSrc r q 0 G LA w hG
  have gw := getWidth w q g W H n cap hP
  have gh := getHeight w q g W H n cap hP
  have gm := getMatrix w q g W H n cap hP
  have bp := blackPoints ⟨x, 0, none⟩ g n cap W H sw sh lt px w hO hg hn hW1 hW2 hH1 hH2 hsw hsh hlt0 hlt hpx2
  have m1 := metW ⟨q, 0, none⟩
  have m2 := metH ⟨q, 0, none⟩
  have m3 := metM ⟨q, 0, none⟩
  have c0 := hX.cell? 0
  have c1 := hX.cell? 1
  simp only [List.getElem?_cons_zero, List.getElem?_cons_succ] at c0 c1
  have a7 := and7 W hW2
  have b7 := and7 H hH2
  have hsw3 : (sw : Int) = if W % 8 = 0 then (W : Int) / 8 else (W : Int) / 8 + 1 := by rw [hsw]; split <;> omega
  have hsh3 : (sh : Int) = if H % 8 = 0 then (H : Int) / 8 else (H : Int) / 8 + 1 := by rw [hsh]; split <;> omega
  have HSW3 := hid hsw3
  have HSH3 := hid hsh3
  have HX := hid hX
  have HO := hid hO
  have HN := hid hn
  have HPX := hid hpx
  have HD := hid hD
  have HSW := hid hsw
  have HSH := hid hsh
  have HRS := hid hrs
  have hxl := hX.lt
  have hW4 : (40 : Int) ≤ (W : Int) := by omega
  have hH4 : (40 : Int) ≤ (H : Int) := by omega
  clear hX hG hP hO hn hpx hpx2 hD hsw hsh hrs hsw3 hsh3
  go_enter Try.func84, Try.ntmps84
  go_wp2_with fail
  refine gs.mono ?_
  rintro e w1 ⟨rfl, rfl⟩
  go_wp2_with fail
  refine gw.mono ?_
  rintro e w1 ⟨rfl, rfl⟩
  go_wp2_with fail
  refine gh.mono ?_
  rintro e w1 ⟨rfl, rfl⟩
  go_wp2_with fail
  refine gm.mono ?_
  rintro e w1 ⟨rfl, rfl⟩
  clear gs gw gh gm
  go_upto_if 45 with fail
  go_cut [8] from 15 to 99 (fun v wx => v = .int .i64 (sw : Nat) ∧ w = wx)
  case first =>
    by_cases h : W % 8 = 0
    · have h' : ((W % 8 : Nat) : Int) = 0 := by omega
      rw [h'] at a7
      go_wp2_with fail
      go_meet
      case rel => exact ⟨by rw [HSW3.out, if_pos h], rfl⟩
    · have h' : (((W % 8 : Nat) : Int) != 0) = true := by simp; omega
      go_wp2_with fail
      go_meet
      case rel => exact ⟨by rw [HSW3.out, if_neg h], rfl⟩
  case rest =>
    obtain ⟨rfl, rfl⟩ := hcut
    go_upto_if 52 with fail
    go_cut [9] from 15 to 99 (fun v wx => v = .int .i64 (sh : Nat) ∧ w = wx)
    case first =>
      by_cases h : H % 8 = 0
      · have h' : ((H % 8 : Nat) : Int) = 0 := by omega
        rw [h'] at b7
        go_wp2_with fail
        go_meet
        case rel => exact ⟨by rw [HSH3.out, if_pos h], rfl⟩
      · have h' : (((H % 8 : Nat) : Int) != 0) = true := by simp; omega
        go_wp2_with fail
        go_meet
        case rel => exact ⟨by rw [HSH3.out, if_neg h], rfl⟩
    case rest =>
      obtain ⟨rfl, rfl⟩ := hcut
      clear HSW3 HSH3 a7 b7
      go_wp2_with fail
      refine bp.mono ?_
      rintro e w2 ⟨GB, F, rfl, hF, hR, hb2⟩
      have nb := newBits W H rs w2 (by omega) (by omega) (by omega) (by omega) HRS.out
      have HF := hid hF
      have HR := hid hR
      have HB2 := hid hb2
      clear bp hF hR hb2
      go_wp2_with fail
      refine nb.mono ?_
      rintro e w3 ⟨q2, g2, ws, rfl, hg2, hM, hb3⟩
      have th := threshold ⟨x, 0, none⟩ w2.heap.size g n cap W H rs q2 g2 sw sh GB lt F px ws D w3 hM (fun k hk => ((HB2.out.trans (hb3.mono HB2.out.size)).cell (p := ⟨g, k, none⟩) hg).trans (HO.out k hk)) (Nat.lt_of_lt_of_le hg HB2.out.size) hg2 hb3.size ⟨w2, HR.out, hb3, rfl⟩ HF.out HN.out hW1 hW2 hH1 hH2 HSW.out HSH.out hlt0 hlt (by have := HRS.out; omega) HPX.out HD.out
      have HB3 := hid hb3
      clear nb hM hb3
      go_wp2_with fail
      refine th.mono ?_
      rintro e w4 ⟨ws4, rfl, hM4, hb4⟩
      have hxw := HB2.out.size
      have HX4 := hid (Arr.below (Arr.below (Arr.below HX.out HB2.out hxl) HB3.out (by omega)) hb4 (by omega))
      have HB4 := hid ((HB2.out.trans (HB3.out.mono HB2.out.size)).trans (hb4.mono HB2.out.size))
      have HM4 := hid hM4
      clear th hM4 hb4 HX c0 c1
      have d1 := HX4.out.cell? 1
      simp only [List.getElem?_cons_zero, List.getElem?_cons_succ] at d1
      have fz := HX4.out.frozen 1
      have hne : x ≠ q2 := by have := HM4.out.gq; omega
      have hne2 : x ≠ g2 := by omega
      go_wp2_with fail
      go_ret2
      exact ⟨q2, g2, ws4, rfl, ⟨HM4.out.st.far (p := ⟨x, 1, none⟩) (by simpa using Ne.symm hne) _, HM4.out.bits.far (p := ⟨x, 1, none⟩) (by simpa using Ne.symm hne2) _, HM4.out.sh, HM4.out.gq, HM4.out.wr, HM4.out.rw_⟩, (HB4.out.mono hBs).setCell (by simpa using hBx) _⟩

/-- The picture of rows, as a matrix of bits. -/
def DimB (R : Nat → Nat → Bool) (W H : Nat) : Nat → Nat → Bool := fun a b => decide (a < W) && decide (b < H) && R b a
theorem DimB_bd (R : Nat → Nat → Bool) (W H a b : Nat) (h : DimB R W H a b = true) : a < W ∧ b < H := by
  unfold DimB at h
  simp only [Bool.and_eq_true, decide_eq_true_eq] at h
  exact h.1
theorem DimB_px (R : Nat → Nat → Bool) (W H lt x y : Nat) (hx : x < W) (hy : y < H) : pxOf R W lt (y * W + x) = if DimB R W H x y then 0 else lt := by
  obtain ⟨d1, d2⟩ := at_row W y x hx
  unfold pxOf DimB
  rw [d1, d2, decide_eq_true hx, decide_eq_true hy, Bool.true_and, Bool.true_and]

def BlkOut (W H rs : Nat) (D : Nat → Nat → Bool) (w : World) (e : Ending) (w' : World) : Prop :=
  ∃ q2 g2 ws, e = .returned (.pointer (some ⟨q2, 0, none⟩)) ∧ IsMat w' q2 g2 93 87 W H rs ws D ∧ Below w.heap.size w w'
set_option maxRecDepth 20000 in
set_option maxHeartbeats 16000000 in
theorem black (W H n c rs lt : Nat) (A : Option Addr) (px : Nat → Nat) (D : Nat → Nat → Bool) (w : World) (hR : Rd w A n (bytesOf n px)) (hn : n = W * H) (hW1 : 40 ≤ W) (hW2 : W ≤ 120) (hH1 : 40 ≤ H) (hH2 : H ≤ 120) (hlt0 : 25 ≤ lt) (hlt : lt ≤ 255) (hrs : rs = (W + 31) / 32)
    (hp8 : ∀ k, px k < 256) (hpx : ∀ x y, x < W → y < H → px (y * W + x) = if D x y then 0 else lt) (hD : ∀ a b, D a b = true → a < W ∧ b < H) :
    Calls Try.prog 24 #[.int .i64 W, .int .i64 H, .slice A n c, .bool true] w (BlkOut W H rs D w) := by
  have so := sourceB W H n c A px w hR (by omega) hW2 (by omega) hH2 hn hp8
  have m1 := fun a => metHB a
  have HN := hid hn
  have HPX := hid hpx
  have HD := hid hD
  have HRS := hid hrs
  clear hR hn hp8 hpx hD hrs
  go_enter Try.func24, Try.ntmps24
  go_wp2_with fail
  refine so.mono ?_
  rintro e w1 ⟨q, g, cap, rfl, hO, hP, hcap, hb1⟩
  have ng := newGlob q w1
  have hgw := hO.lt
  have hqw := hP.lt
  have HO := hid hO
  have HP := hid hP
  have HB1 := hid hb1
  clear so hO hP hb1
  go_wp2_with fail
  refine ng.mono ?_
  rintro e w2 ⟨r0, G0, LA0, rfl, _, _, _, _, _, hb2⟩
  have nh := newHybrid q w2
  have hgw2 := Nat.lt_of_lt_of_le hgw hb2.size
  have hqw2 := Nat.lt_of_lt_of_le hqw hb2.size
  have HO2 := hid (HO.out.below hb2 hgw)
  have HP2 := hid (Arr.below HP.out hb2 hqw)
  have HB2 := hid (HB1.out.trans (hb2.mono HB1.out.size))
  clear ng hb2 HO HP HB1
  go_wp2_with fail
  refine nh.mono ?_
  rintro e w3 ⟨x, r, G, LA, rfl, hx, hrx, hHy, hGl, hb3⟩
  have hws := HB2.out.size
  have HO3 := hid (HO2.out.below hb3 hgw2)
  have HP3 := hid (Arr.below HP2.out hb3 hqw2)
  have HB3 := hid (HB2.out.trans (hb3.mono HB2.out.size))
  have gb := getBlackMatrix w.heap.size x r q g n cap W H rs lt G LA px D w3 hHy hGl HP3.out (fun k hk => HO3.out.cell k hk) (Nat.lt_of_lt_of_le hgw2 hb3.size) (by omega) HN.out hW1 hW2 hH1 hH2 hlt0 hlt HRS.out HPX.out HD.out
  have m2 := m1 ⟨x, 0, none⟩
  clear nh hHy hGl hb3 m1
  go_wp2_with fail
  refine gb.mono ?_
  rintro e w4 ⟨q2, g2, ws, rfl, hM, hb4⟩
  have HM := hid hM
  have HB4 := hid (HB3.out.trans hb4)
  clear gb hM hb4
  go_wp2_with fail
  go_ret
  exact ⟨q2, g2, ws, rfl, HM.out, HB4.out⟩

def BMOut (W H : Nat) (D : Nat → Nat → Bool) (w : World) (e : Ending) (w' : World) : Prop :=
  ∃ G, e = .returned (.tuple #[.slice (some ⟨G, 0, none⟩) H H, .bool true]) ∧ RdRows w' (some ⟨G, 0, none⟩) H (brow (fun r c => D c r) W) ∧ Below w.heap.size w w'
theorem info62 : (Try.prog.info? 62).isSome = true := by kernel_rfl
set_option maxRecDepth 20000 in
set_option maxHeartbeats 16000000 in
theorem blackMatrix (W H n c lt : Nat) (A : Option Addr) (px : Nat → Nat) (D : Nat → Nat → Bool) (w : World) (hR : Rd w A n (bytesOf n px)) (hn : n = W * H) (hW1 : 40 ≤ W) (hW2 : W ≤ 120) (hH1 : 40 ≤ H) (hH2 : H ≤ 120) (hlt0 : 25 ≤ lt) (hlt : lt ≤ 255)
    (hp8 : ∀ k, px k < 256) (hpx : ∀ x y, x < W → y < H → px (y * W + x) = if D x y then 0 else lt) (hD : ∀ a b, D a b = true → a < W ∧ b < H) :
    Calls Try.prog 18 #[.int .i64 W, .int .i64 H, .slice A n c, .bool true] w (BMOut W H D w) := by
  have bl := black W H n c ((W + 31) / 32) lt A px D w hR hn hW1 hW2 hH1 hH2 hlt0 hlt rfl hp8 hpx hD
  have hrs : (W + 31) / 32 ≤ 32 := by omega
  generalize (W + 31) / 32 = rs at *
  clear hR hn hp8 hpx hD
  go_enter Try.func18, Try.ntmps18
  go_wp2_with fail
  refine bl.mono ?_
  rintro e w1 ⟨q2, g2, ws, rfl, hM, hb1⟩
  have ro := rowsOf q2 g2 W H rs ws D w1 hM (by omega) (by omega) hrs
  have HB1 := hid hb1
  clear bl hM hb1
  go_wp2_with fail
  refine ro.mono ?_
  rintro e w2 ⟨G, rfl, hG, hX, hb2⟩
  have HX := hid hX
  have HB2 := hid (HB1.out.trans (hb2.mono HB1.out.size))
  clear ro hX hb2
  go_wp2_with fail
  go_ret2
  exact ⟨G, rfl, HX.out, HB2.out⟩

set_option maxRecDepth 20000 in
set_option maxHeartbeats 16000000 in
theorem sameRows (G1 G2 c d W H : Nat) (R : Nat → Nat → Bool) (w : World) (h1 : RdRows w (some ⟨G1, 0, none⟩) H (brow R W)) (h2 : RdRows w (some ⟨G2, 0, none⟩) H (brow R W)) (hW : W ≤ 1000) (hH1 : 1 ≤ H) (hH : H ≤ 1000) :
    Calls Try.prog 19 #[.slice (some ⟨G1, 0, none⟩) H c, .slice (some ⟨G2, 0, none⟩) H d] w (DrewIt (.bool true) w) := by
  obtain ⟨b1, o1, R1, C1, hA1, hb1, hX1⟩ := h1.opened (by omega)
  obtain ⟨b2, o2, R2, C2, hA2, hb2, hX2⟩ := h2.opened (by omega)
  injection hA1 with hA1
  injection hA2 with hA2
  simp only [Addr.mk.injEq, and_true] at hA1 hA2
  obtain ⟨rfl, rfl⟩ := hA1
  obtain ⟨rfl, rfl⟩ := hA2
  have HX1 := hid (fun k hk => show w.cell? ⟨G1, k, none⟩ = some (.slice (R1 k) W (C1 k)) ∧ Rd w (R1 k) W (brow R W k) from by have := hX1 w (Below.refl _ _) k hk; rw [brow_len, Nat.zero_add] at this; exact ⟨this.1, this.2.1⟩)
  have HX2 := hid (fun k hk => show w.cell? ⟨G2, k, none⟩ = some (.slice (R2 k) W (C2 k)) ∧ Rd w (R2 k) W (brow R W k) from by have := hX2 w (Below.refl _ _) k hk; rw [brow_len, Nat.zero_add] at this; exact ⟨this.1, this.2.1⟩)
  clear h1 h2 hX1 hX2
  go_enter Try.func19, Try.ntmps19
  go_wp2_with fail
  go_loopw [5] (fun iv wr => ∃ i m : Nat, i ≤ H ∧ iv = .int .i64 (i : Nat) ∧ w.drewN m = wr) (fun iv _ => H - (intOf iv).toNat)
  case atStart => exact ⟨0, 0, by omega, rfl, rfl⟩
  case round =>
    obtain ⟨i, m, hi, rfl, hw⟩ := hrel
    have HW := hid hw
    have hcD := hid (fun (a : Addr) => show wr.cell? a = w.cell? a from by rw [← hw]; rfl)
    have hD := hid (fun A l (h : Rd w A W l) => show Rd wr A W l from by rw [← hw]; exact h.drewN m)
    clear hw
    by_cases hlt : i < H
    · have hlt' : (i : Int) < (H : Int) := by omega
      obtain ⟨t1, r1⟩ := HX1.out i hlt
      obtain ⟨t2, r2⟩ := HX2.out i hlt
      have hbr : brow R W i = ((List.range W).map fun c => R i c).map Value.bool := by simp [brow]
      rw [hbr] at r1 r2
      have sb := fun M => sameBits (R1 i) (R2 i) W (C1 i) (C2 i) _ (wr.drewN M) ((hD.out _ _ r1).drewN M) ((hD.out _ _ r2).drewN M) hW
      rw [← hcD.out] at t1 t2
      generalize R1 i = A1 at *
      generalize R2 i = A2 at *
      generalize C1 i = ca at *
      generalize C2 i = cb at *
      clear hbr r1 r2
      go_wp2_with fail
      go_quiet ((go_at_call 15; exact (sb _).mono fun _ _ hh => ⟨hh.1, by obtain ⟨n2, hn2⟩ := hh.2; exact ⟨_, hn2.symm.trans (World.drewN_drewN _ _ _)⟩⟩))
      go_wp2_with fail
      go_roundw
      case rel => exact ⟨i + 1, _, by omega, by go_num, by rw [← HW.out]; exact (World.drewN_drewN _ _ _).symm⟩
      case measure => simp [intOf]; omega
    · obtain rfl : i = H := by omega
      have hlt' : ¬ (i : Int) < (i : Int) := by omega
      go_wp2_with fail
      go_ret
      exact ⟨rfl, m, HW.out⟩
end Go.Proofs.Ytkonepeejhgloaa
