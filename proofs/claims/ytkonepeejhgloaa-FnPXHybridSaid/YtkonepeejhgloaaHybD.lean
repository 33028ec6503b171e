/- A source of up to 120 by 120 pixels; pxLarge, PXDraw; a hybrid binarizer made. -/
import Derived.Test.YtkonepeejhgloaaHybC
import Derived.Test.YtkonepeejhgloaaRowC
namespace Go.Proofs.Ytkonepeejhgloaa
open Go.RowKit
set_option linter.unusedVariables false
set_option linter.unusedSimpArgs false

theorem fitsB (wd h n : Nat) (w : World) (hw : 1 ≤ wd) (hh : 1 ≤ h) (hn : n ≤ 14400) (hw2 : wd ≤ 120) (hh2 : h ≤ 120) (hq : n / wd = h) (hr : n % wd = 0) :
    Calls Try.prog 26 #[.int .i64 wd, .int .i64 h, .int .i64 n] w fun e w' => e = .returned (.bool true) ∧ w = w' := by
  have h1 : (0 : Int) < (wd : Int) := by omega
  have h2 : (0 : Int) < (h : Int) := by omega
  have h3 : (n : Int) / (wd : Int) = (h : Int) := by rw [← hq]; exact (Int.natCast_ediv _ _).symm
  have h4 : (n : Int) % (wd : Int) = 0 := by rw [show (0 : Int) = ((n % wd : Nat) : Int) by rw [hr]; rfl]; exact (Int.natCast_emod _ _).symm
  clear hq hr
  go_enter Try.func26, Try.ntmps26
  go_wp2
  go_ret
  exact ⟨rfl, rfl⟩
/-- The source over a slice of its own: as it is, or turned over. -/
theorem newPlanarB (B g wd h n cap : Nat) (px : Nat → Nat) (w : World) (hO : OwnB w B g n cap px) (hw2 : wd ≤ 120) (hh2 : h ≤ 120) :
    Calls Try.prog 27 #[.slice (some ⟨g, 0, none⟩) n cap, .int .i64 wd, .int .i64 h, .int .i64 0, .int .i64 0, .int .i64 wd, .int .i64 h, .bool false] w fun e w' =>
      e = .returned (.tuple #[.iface 78 (.pointer (some ⟨w.heap.size, 0, none⟩)), .nilIface]) ∧ OwnB w' B g n cap px ∧ Plan w' w.heap.size g wd h n cap ∧ Below w.heap.size w w' := by
  have P := hid (Arr.of_new w 82 #[.int .i64 wd, .int .i64 h, .slice (some ⟨g, 0, none⟩) n cap, .int .i64 wd, .int .i64 h, .int .i64 0, .int .i64 0])
  have HB := hid ((Below.refl w.heap.size w).alloc (Nat.le_refl _) (.cells #[.int .i64 wd, .int .i64 h, .slice (some ⟨g, 0, none⟩) n cap, .int .i64 wd, .int .i64 h, .int .i64 0, .int .i64 0] 82))
  have HO := hid (hO.below HB.out hO.lt)
  clear hO
  go_enter Try.func27, Try.ntmps27
  go_wp2_with fail
  go_ret2
  exact ⟨rfl, HO.out, P.out, HB.out⟩
set_option maxRecDepth 20000 in
set_option maxHeartbeats 4000000 in
theorem sourceB (wd h n c : Nat) (A : Option Addr) (px : Nat → Nat) (w : World) (hR : Rd w A n (bytesOf n px)) (hw1 : 1 ≤ wd) (hw2 : wd ≤ 120) (hh1 : 1 ≤ h) (hh2 : h ≤ 120) (hn : n = wd * h) (hpx : ∀ k, px k < 256) :
    Calls Try.prog 20 #[.int .i64 wd, .int .i64 h, .slice A n c, .bool false] w (SourceOut wd h n px w) := by
  obtain ⟨i0, hi, hz0, hz1, hz2⟩ := info_parts info5
  have hnb : n ≤ 120 * 120 := by rw [hn]; exact Nat.mul_le_mul hw2 hh2
  have hn1 : 1 * 1 ≤ n := by rw [hn]; exact Nat.mul_le_mul hw1 hh1
  have fy := fitsB wd h n w hw1 hh1 (by omega) hw2 hh2 (by rw [hn, Nat.mul_div_cancel_left _ (by omega)]) (by rw [hn, Nat.mul_mod_right])
  have HN := hid hn
  have HPX := hid hpx
  have hbl := bytesOf_length n px
  have h1 := bytes_one n px
  have H1 := hid h1
  have HBL := hid hbl
  clear hn hpx h1 hbl
  go_enter Try.func20, Try.ntmps20
  go_wp2_with fail
  refine fy.mono ?_
  rintro e w0 ⟨rfl, rfl⟩
  clear fy
  go_wp2_with (at_builtin; refine wpList_app _ rfl (.const (.slice none 0 0)) (.tmp 19) 22 rfl w.heap.size 5 i0 _ 1 Try.underlying22 hi hz0 hz1 hz2 rfl (.slice none 0 0) [] rfl (Own.nil _ _ _) A n c (bytesOf n px) rfl hR H1.out (by simp [maxLen]; omega) (by simp; omega) (Nat.le_refl _) ?_)
  intro v w1 hO hg _
  try simp only [List.nil_append] at hO
  have hOr : w1.ownsRow w.heap.size 5 1 v n (bytesOf n px) := by have := hO; unfold Own at this; rwa [HBL.out] at this
  obtain ⟨g, cap, rfl, hBg, hcap⟩ : ∃ g cap, v = .slice (some ⟨g, 0, none⟩) n cap ∧ w.heap.size ≤ g ∧ n ≤ cap := by
    rcases hOr.2 with ⟨_, h0⟩ | ⟨g, cap, cur, hv, hb, _, hc, _⟩
    · omega
    · exact ⟨g, cap, hv, hb, hc⟩
  have HB := hid (show Below w.heap.size w w1 from (Below.refl _ _).grown hg (Nat.le_refl _) (by simp [Value.ownBlock]))
  have HO : Hid (OwnB w1 w.heap.size g n cap px) := hid hOr
  clear hO hg hOr hR hi hz0 hz1 hz2
  have np := newPlanarB w.heap.size g wd h n cap px w1 HO.out hw2 hh2
  go_wp2_with fail
  refine np.mono ?_
  clear np
  rintro e w2 ⟨rfl, h1, h2, h3⟩
  have H1 := hid h1
  have H2 := hid h2
  have H3 := hid (HB.out.trans (h3.mono HB.out.size))
  clear h1 h2 h3
  go_wp2_with fail
  go_quiet (fail)
  go_wp2_with fail
  go_ret2
  exact ⟨_, g, cap, rfl, H1.out, H2.out, hcap, below_drewN H3.out _⟩

theorem Rd.one' (w : World) (e : TypeId) (v : Value) (s : Nat) (h : s = w.heap.size) : Rd (w.alloc (.cells #[v] e)) (Option.some ⟨s, 0, none⟩) 1 [v] := by
  subst h
  exact Rd.one w e v
theorem pxLarge (x y : Nat) (hx : x ≤ 255) (hy : y ≤ 255) (A : Option Addr) (L c : Nat) (zs : List Bool) (w : World) (hZ : Rd w A L (zs.map Value.bool)) (hL : L ≤ 2147483647) :
    Calls Try.prog 16 #[.slice A L c, .int .u8 x, .int .u8 y] w (RowsBack (40 + y % 81) (brow (wrapR zs L (40 + x % 81)) (40 + x % 81)) w) := by
  have rb := rowsBy A L c (40 + x % 81) (40 + y % 81) zs w hZ hL (by omega) (by have := Nat.mod_lt x (show 0 < 81 by omega); omega) (by have := Nat.mod_lt y (show 0 < 81 by omega); omega)
  have e1 : (40 : Int) + (x : Int) % 81 = ((40 + x % 81 : Nat) : Int) := by omega
  have e2 : (40 : Int) + (y : Int) % 81 = ((40 + y % 81 : Nat) : Int) := by omega
  rw [← e1, ← e2] at rb
  have RB := hid rb
  clear rb e1 e2 hZ
  go_enter Try.func16, Try.ntmps16
  go_wp2_with fail
  refine RB.out.mono ?_
  rintro e w1 ⟨G, rfl, hG, hX, hb⟩
  have HX := hid hX
  have HB := hid hb
  clear hX hb
  go_wp2_with fail
  go_ret
  exact ⟨G, rfl, hG, HX.out, HB.out⟩

/-- The pixels of rows in two grays. -/
def pxOf (R : Nat → Nat → Bool) (W lt : Nat) : Nat → Nat := fun k => if R (k / W) (k % W) then 0 else lt
theorem bytesOf_succ (m : Nat) (px : Nat → Nat) : bytesOf (m + 1) px = bytesOf m px ++ [.int .u8 (px m : Nat)] := by
  unfold bytesOf
  rw [List.range_succ, List.map_append]; rfl
def DrawOut (W H n : Nat) (px : Nat → Nat) (w : World) (e : Ending) (w' : World) : Prop :=
  ∃ A c, e = .returned (.tuple #[.int .i64 W, .int .i64 H, .slice A n c]) ∧ Rd w' A n (bytesOf n px) ∧ Below w.heap.size w w'

set_option maxRecDepth 20000 in
set_option maxHeartbeats 16000000 in
theorem pxDraw (G c W H lt n : Nat) (R : Nat → Nat → Bool) (w : World) (hX : RdRows w (some ⟨G, 0, none⟩) H (brow R W)) (hW1 : 1 ≤ W) (hW : W ≤ 120) (hH1 : 1 ≤ H) (hH : H ≤ 120) (hl : lt ≤ 255) (hn : n = W * H) :
    Calls Try.prog 17 #[.slice (some ⟨G, 0, none⟩) H c, .int .i64 1, .agg #[.int .i64 0, .int .i64 0, .int .i64 0, .int .i64 0], .int .u8 0, .int .u8 lt] w (DrawOut W H n (pxOf R W lt) w) := by
  obtain ⟨i0, hi, hz0, hz1, hz2⟩ := info_parts info5
  have hnb : n ≤ 120 * 120 := by rw [hn]; exact Nat.mul_le_mul hW hH
  have hmul : (W : Int) * (H : Int) = (n : Int) := by rw [hn]; simp
  have hmk := fun W1 => run_make (P := Try.prog) W1 22 5 i0 (.int .u8 0) Try.underlying22 hi hz0 .i64 .i64 0 (n : Int) (by omega) (by omega) (by rw [hz2]; omega) (by omega)
  simp only [hz1] at hmk
  obtain ⟨b, o, Rr, Cr, hA, hbw, hX⟩ := hX.opened (by omega)
  injection hA with hA
  simp only [Addr.mk.injEq, and_true] at hA
  obtain ⟨rfl, rfl⟩ := hA
  have HX := hid (fun w' hw k hk => show w'.cell? ⟨G, k, none⟩ = some (.slice (Rr k) W (Cr k)) ∧ Rd w' (Rr k) W (brow R W k) from by have := hX w' hw k hk; rw [brow_len, Nat.zero_add] at this; exact ⟨this.1, this.2.1⟩)
  have hc0 := (HX.out w (Below.refl _ _) 0 (by omega)).1
  have hH' : (0 : Int) < (H : Int) := by omega
  have HN := hid hn
  clear hX hn
  go_enter Try.func17, Try.ntmps17
  go_wp2_with fail
  go_quiet (fail)
  rw [show decide (0 < H) = true from decide_eq_true (by omega)]
  have HM := hid (show Arr ((w.alloc (.cells #[.int .i64 0, .int .i64 0, .int .i64 0, .int .i64 0] 41)).drewN nq) w.heap.size 41 [.int .i64 0, .int .i64 0, .int .i64 0, .int .i64 0] from (Arr.of_new w 41 #[.int .i64 0, .int .i64 0, .int .i64 0, .int .i64 0]).drewN nq)
  have HB0 := hid (show Below w.heap.size w ((w.alloc (.cells #[.int .i64 0, .int .i64 0, .int .i64 0, .int .i64 0] 41)).drewN nq) from below_drewN ((Below.refl _ _).alloc (Nat.le_refl _) _) nq)
  generalize (w.alloc (.cells #[.int .i64 0, .int .i64 0, .int .i64 0, .int .i64 0] 41)).drewN nq = w1 at *
  have hmk1 := hmk w1
  clear hmk hc0
  go_wp2_with fail
  have hm1 := HM.out.lt
  have HM1 := hid (HM.out.alloc (.cells (madeCells #[.int .u8 0] n) 5))
  have HB1 := hid (HB0.out.alloc HB0.out.size (.cells (madeCells #[.int .u8 0] n) 5))
  have HO1 := hid (show Own (w1.alloc (.cells (madeCells #[.int .u8 0] n) 5)) w1.heap.size 5 (.slice (some ⟨w1.heap.size, 0, none⟩) 0 n) [] from World.ownsRow_made w1 (madeCells #[.int .u8 0] n) n (Nat.le_refl _) (by simp [maxLen]; omega) (by simp [madeCells]))
  generalize hsz : w1.heap.size = B0 at *
  generalize w1.alloc (.cells (madeCells #[.int .u8 0] n) 5) = w2 at *
  obtain ⟨bm, hbm⟩ : ∃ bm, bm = w.heap.size := ⟨_, rfl⟩
  rw [← hbm] at HM1 ⊢
  have hbmB : bm < B0 := by omega
  have hwB : w.heap.size ≤ B0 := by omega
  clear hmk1 HM HB0 hsz hm1 hbm
  go_loopw [16, 17] (fun ov yv wr => ∃ (y : Nat), y ≤ H ∧ yv = .int .i64 (y : Nat) ∧ Hid (Own wr B0 5 ov (bytesOf (y * W) (pxOf R W lt))) ∧ Hid (Arr wr bm 41 [.int .i64 0, .int .i64 0, .int .i64 0, .int .i64 0]) ∧ Hid (Below w.heap.size w wr) ∧ B0 ≤ wr.heap.size) (fun _ yv _ => H - (intOf yv).toNat)
  case atStart => exact ⟨0, by omega, rfl, hid (by rw [Nat.zero_mul]; exact HO1.out), HM1, HB1, by
    have := (HO1.out.lt B0 rfl).2; omega⟩
  case round =>
    clear HO1 HM1 HB1
    obtain ⟨y, hy, rfl, HO, HM, HB, hBs⟩ := hrel
    by_cases hlt : y < H
    · have hlt' : (y : Int) < (H : Int) := by omega
      have hyW : y * W + W ≤ n := by
        rw [HN.out, Nat.mul_comm W H]
        have := Nat.mul_le_mul_right W (show y + 1 ≤ H by omega)
        rwa [Nat.add_mul, Nat.one_mul] at this
      go_wp2_with fail
      go_loopw [16, 18] (fun ov xv wr => ∃ (x : Nat), x ≤ W ∧ xv = .int .i64 (x : Nat) ∧ Hid (Own wr B0 5 ov (bytesOf (y * W + x) (pxOf R W lt))) ∧ Hid (Arr wr bm 41 [.int .i64 0, .int .i64 0, .int .i64 0, .int .i64 0]) ∧ Hid (Below w.heap.size w wr) ∧ B0 ≤ wr.heap.size) (fun _ xv _ => W - (intOf xv).toNat)
      case atStart => exact ⟨0, by omega, rfl, HO, HM, HB, hBs⟩
      case round =>
        clear HO HM HB hBs
        obtain ⟨x, hx, rfl, HO, HM, HB, hBs⟩ := hrel
        by_cases hlx : x < W
        · have hlx' : (x : Int) < (W : Int) := by omega
          have cm0 := HM.out.cell? 0
          have cm2 := HM.out.cell? 2
          simp only [List.getElem?_cons_zero, List.getElem?_cons_succ] at cm0 cm2
          obtain ⟨t1, hRow⟩ := HX.out wr HB.out y hlt
          generalize Rr y = RA at *
          generalize Cr y = CA at *
          obtain ⟨b1, o1, rfl, hb1, hc1⟩ := rd_brow hRow x hlx
          have hpx : pxOf R W lt (y * W + x) = if R y x then 0 else lt := by
            obtain ⟨d1, d2⟩ := at_row W y x hlx
            unfold pxOf; rw [d1, d2]
          have HNX := hid (bytesOf_succ (y * W + x) (pxOf R W lt))
          rw [hpx] at HNX
          have hlen := bytesOf_length (y * W + x) (pxOf R W lt)
          generalize bytesOf (y * W + x) (pxOf R W lt) = xs at *
          cases hR : R y x with
          | true =>
            rw [hR] at hc1 HNX
            rw [if_pos rfl] at HNX
            clear hRow hpx hR
            go_wp2_with fail
            go_quiet (fail)
            go_wp2_with fail
            go_quiet (fail)
            generalize hwq : (wr.drewN _).drewN _ = wq at *
            have HO2 := hid (show Own wq B0 5 u16 xs from by rw [← hwq]; exact (HO.out.drewN _).drewN _)
            have HM2 := hid (show Arr wq bm 41 [.int .i64 0, .int .i64 0, .int .i64 0, .int .i64 0] from by rw [← hwq]; exact (HM.out.drewN _).drewN _)
            have HB2 := hid (show Below w.heap.size w wq from by rw [← hwq]; exact below_drewN (below_drewN HB.out _) _)
            have hBq : B0 ≤ wq.heap.size := by rw [← hwq]; exact hBs
            clear hwq HO HM HB cm0 cm2 t1 hc1 hb1 hBs
            go_wp2_with (at_builtin; refine wpList_app _ rfl _ _ 22 rfl B0 5 i0 _ 1 Try.underlying22 hi hz0 hz1 hz2 rfl u16 xs rfl (HO2.out.alloc _) _ 1 1 [.int .u8 0] rfl (Rd.one' _ _ _ _ rfl) (by simp [Value.oneCell']) (by rw [hlen]; unfold maxLen; omega) (by rw [hlen]; omega) (by simp; omega) ?_)
            intro v1 w3 hO hg hown
            have hbq : bm < wq.heap.size := by omega
            have HO3 := hid hO
            have HM3 := hid ((HM2.out.alloc (.cells #[.int .u8 0] 5)).grown hg (by
              intro e
              have := (HO2.out.alloc (.cells #[.int .u8 0] 5)).lt bm e.symm
              omega))
            have HB3 := hid (below_app (HB2.out.alloc HB2.out.size (.cells #[.int .u8 0] 5)) (HO2.out.alloc _) hg hwB (by simp; have := HB2.out.size; omega))
            have hB3 : B0 ≤ w3.heap.size := by have := hg.size; simp at this; omega
            clear hO hg hown HO2 HM2 HB2
            go_wp2_with fail
            go_roundw
            case rel =>
              have HO4 := hid (show Own w3 B0 5 v1 (bytesOf (y * W + (x + 1)) (pxOf R W lt)) from by rw [← Nat.add_assoc, HNX.out]; exact HO3.out)
              exact ⟨x + 1, by omega, by go_num, HO4, HM3, HB3, hB3⟩
            case measure => simp [intOf]; omega
          | false =>
            rw [hR] at hc1 HNX
            rw [if_neg (by simp)] at HNX
            clear hRow hpx hR
            go_wp2_with fail
            go_quiet (fail)
            go_wp2_with fail
            go_quiet (fail)
            generalize hwq : (wr.drewN _).drewN _ = wq at *
            have HO2 := hid (show Own wq B0 5 u16 xs from by rw [← hwq]; exact (HO.out.drewN _).drewN _)
            have HM2 := hid (show Arr wq bm 41 [.int .i64 0, .int .i64 0, .int .i64 0, .int .i64 0] from by rw [← hwq]; exact (HM.out.drewN _).drewN _)
            have HB2 := hid (show Below w.heap.size w wq from by rw [← hwq]; exact below_drewN (below_drewN HB.out _) _)
            have hBq : B0 ≤ wq.heap.size := by rw [← hwq]; exact hBs
            clear hwq HO HM HB cm0 cm2 t1 hc1 hb1 hBs
            go_wp2_with (at_builtin; refine wpList_app _ rfl _ _ 22 rfl B0 5 i0 _ 1 Try.underlying22 hi hz0 hz1 hz2 rfl u16 xs rfl (HO2.out.alloc _) _ 1 1 [.int .u8 (lt : Nat)] rfl (Rd.one' _ _ _ _ rfl) (by simp [Value.oneCell']) (by rw [hlen]; unfold maxLen; omega) (by rw [hlen]; omega) (by simp; omega) ?_)
            intro v1 w3 hO hg hown
            have hbq : bm < wq.heap.size := by omega
            have HO3 := hid hO
            have HM3 := hid ((HM2.out.alloc (.cells #[.int .u8 (lt : Nat)] 5)).grown hg (by
              intro e
              have := (HO2.out.alloc (.cells #[.int .u8 (lt : Nat)] 5)).lt bm e.symm
              omega))
            have HB3 := hid (below_app (HB2.out.alloc HB2.out.size (.cells #[.int .u8 (lt : Nat)] 5)) (HO2.out.alloc _) hg hwB (by simp; have := HB2.out.size; omega))
            have hB3 : B0 ≤ w3.heap.size := by have := hg.size; simp at this; omega
            clear hO hg hown HO2 HM2 HB2
            go_wp2_with fail
            go_roundw
            case rel =>
              have HO4 := hid (show Own w3 B0 5 v1 (bytesOf (y * W + (x + 1)) (pxOf R W lt)) from by rw [← Nat.add_assoc, HNX.out]; exact HO3.out)
              exact ⟨x + 1, by omega, by go_num, HO4, HM3, HB3, hB3⟩
            case measure => simp [intOf]; omega
        · obtain rfl : x = W := by omega
          have hlx' : ¬ (x : Int) < (x : Int) := by omega
          go_wp2_with fail
          go_roundw
          case rel => exact ⟨y + 1, by omega, by go_num, hid (by rw [Nat.add_mul, Nat.one_mul]; exact HO.out), HM, HB, hBs⟩
          case measure => simp [intOf]; omega
    · obtain rfl : y = H := by omega
      have hlt' : ¬ (y : Int) < (y : Int) := by omega
      have hO := HO.out
      rw [Nat.mul_comm, ← HN.out] at hO
      obtain ⟨A9, c9, hv9, hR9, _⟩ := hO.form
      rw [bytesOf_length] at hv9 hR9
      subst hv9
      have HR9 := hid hR9
      clear hR9 hO HO
      go_wp2_with fail
      go_ret3
      exact ⟨A9, c9, rfl, HR9.out, HB.out⟩
end Go.Proofs.Ytkonepeejhgloaa
