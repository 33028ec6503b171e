/- FnAZBare: the walk of the law. -/
import Derived.Test.YtliephokeafllaaGreatDoorBaD
namespace Go.Proofs.YtliephokeafllaaGreatDoor
open Go.RowKit
set_option linter.unusedVariables false
set_option linter.unusedSimpArgs false

set_option maxRecDepth 100000 in
set_option maxHeartbeats 16000000 in
theorem bare_core (w : World) (A : Option Addr) (cap : Nat) (code : List Nat) (c : Bool) (n : Nat) (Ao : Option Addr) (no cpo : Nat) (ob : List Bool) (hR : Rd w A code.length (u8s code)) (h8 : ∀ x ∈ code, x < 256) (hcap : code.length ≤ cap) (hlen : cap ≤ maxLen) (hn : n < 256)
    (hRo : Rd w Ao no (ob.map Value.bool)) :
    Calls Tryz.prog 3 #[.slice A code.length cap, .bool c, .int .u8 (n : Nat), .slice Ao no cpo] w (TrueOut w) := by
  obtain ⟨hL0, hL⟩ := azLay_bd c n
  have HLY := hid (azLayersM c n hn w)
  obtain ⟨M, hM⟩ : ∃ M, M = min code.length 120 := ⟨_, rfl⟩
  have hML : M ≤ code.length := by omega
  have hsy := symbolM (code.take M) c (azLay c n) hL0 hL A cap w (by rw [List.length_take, Nat.min_eq_left hML]; have := hR.take M hML; unfold u8s at *; rwa [List.map_take]) (fun x hx => h8 x (List.mem_of_mem_take hx)) (by rw [List.length_take]; omega) hlen
  rw [List.length_take, Nat.min_eq_left hML] at hsy
  have HSO := hid (fun k (hk : k ≤ 11) => said_ones (code.take M) (min (M / 2) 150) k hk)
  have HSY := hid hsy
  have hw := azW_cases (azLay c n)
  have hbl := azBitsN_le c hL
  clear hsy
  generalize azRun ⟨[], [], 0⟩ (code.take M) (min (M / 2) 150) = s at *
  obtain ⟨N, hN⟩ : ∃ N, N = code.length := ⟨_, rfl⟩
  rw [← hN] at hM hML hcap ⊢
  have hnc : N ≤ cap := hcap
  clear hR h8 hN
  by_cases hbig : 2147483647 < N
  · have hbig' : (2147483647 : Int) < (N : Int) := by omega
    clear HSY HLY hw hbl HSO
    go_enter Tryz.func3, Tryz.ntmps3
    go_wp2_with fail
    go_ret
    exact ⟨rfl, Below.refl _ _⟩
  have hbig' : ¬ (2147483647 : Int) < (N : Int) := by omega
  by_cases hbo : 2147483647 < no
  · have hbo' : (2147483647 : Int) < (no : Int) := by omega
    clear HSY HLY hw hbl HSO
    go_enter Tryz.func3, Tryz.ntmps3
    go_wp2_with fail
    go_ret
    exact ⟨rfl, Below.refl _ _⟩
  have hbo' : ¬ (2147483647 : Int) < (no : Int) := by omega
  generalize azLay c n = L at *
  have hmn : (if (120 : Int) < (N : Int) then (120 : Int) else (N : Int)) = (M : Nat) := by split <;> omega
  have hM120 : M ≤ 120 := by omega
  have HLAY := hid (fun (W : World) (ws : List Nat) (A9 : Option Addr) (c9 : Nat) (hl : ws.length = azBitsN c L / azW L) (hR9 : Rd W A9 ws.length (ints ws)) (hlt : ∀ x ∈ ws, x < 4096) => layM c L hL0 hL ws A9 c9 W hR9 hlt hl)
  have HUS := hid (fun W => usedM c L hL0 hL W)
  have HWD := hid (fun W => azWidthM L W)
  have HDE := hid (fun (W : World) (nb : Nat) (A9 : Option Addr) (c9 : Nat) (X : Nat → Nat → Bool) (ws T : List Nat) (hX : RdRows W A9 (azWhole c L) (brow X (azWhole c L))) (hLd : LaidTo c L (layBits (azBitsN c L % azW L) (azW L) ws) (azBitsN c L) X) (hwl : ws.length = azBitsN c L / azW L)
      (hnb : 1 ≤ nb) (hal : nb ≤ azBitsN c L / azW L) (hC : Rs.CodeL (azP (azW L)) (azW L) 1 (azBitsN c L / azW L - nb) (azBitsN c L / azW L) ws) (hin : ∀ k, k < nb → ws.getD k 0 ≠ 0 ∧ ws.getD k 0 ≠ 2 ^ azW L - 1) (hruns : Runs (unst (azW L) (ws.take nb)) T 0 0 0 []) =>
    azDecodeM c L hL0 hL nb (azBitsN c L / azW L) (azBitsN c L % azW L) (azW L) A9 c9 X ws T W hX hLd rfl hwl rfl rfl hnb hal hC hin hruns)
  have hpow : 2 ^ azW L ≤ 4096 := by rcases hw with h | h | h | h <;> rw [h] <;> decide
  have hdiv : azW L * (azBitsN c L / azW L) + azBitsN c L % azW L = azBitsN c L := Nat.div_add_mod _ _
  have hal : azBitsN c L / azW L ≤ 4000 := Nat.le_trans (Nat.div_le_div_left (show 5 ≤ azW L by omega) (by decide)) (by omega)
  have hwd6 : 6 ≤ azW L := by omega
  have hwd12 : azW L ≤ 12 := by omega
  have hH200 : azWhole c L ≤ 200 := by cases c <;> simp [azWhole, azHalf] <;> omega
  clear hcap hlen hw hM hn
  unfold LayOut at HLAY
  unfold UsedN at HUS
  generalize hWDe : azW L = wd at *
  generalize hBT : azBitsN c L = BT at *
  generalize azWhole c L = H at *
  generalize hp : azP wd = p at *
  generalize hal2 : BT / wd = al at *
  generalize hr2 : BT % wd = r at *
  clear hWDe hBT hal2 hr2 hp
  have HPW := hid hpow
  have HDV := hid hdiv
  have HRO := hid hRo
  clear hpow hdiv hRo
  have hno0 : (0 : Int) ≤ (no : Int) := by omega
  go_enter Tryz.func3, Tryz.ntmps3
  go_wp2_with (first | (go_at_call 4; ((with_reducible refine HLY.out.mono ?_); rintro e w' ⟨rfl, rfl⟩)))
  refine HSY.out.mono ?_
  rintro e w1 ⟨t, hS, ht, hcase⟩
  rcases hcase with ⟨rfl, hb⟩ | ⟨h1, h2, ws, A1, c1, rfl, hc1, hCL, ⟨tl, htl⟩, hR1, hb1⟩
  · have HB := hid hb
    clear hb hS ht HSY HLY HLAY HUS HWD HDE HSO hmn
    go_wp2_with fail
    go_ret
    exact ⟨rfl, HB.out⟩
  have hwl : ws.length = al := hCL.2.1
  have hlt : ∀ x ∈ ws, x < 4096 := fun x hx => Nat.lt_of_lt_of_le (hCL.1 x hx) HPW.out
  have htk : ws.take t = (stuffTo s.bits wd t).1 := take_of_app htl (stuffTo_len _ _ _)
  have hin : ∀ k, k < t → ws.getD k 0 ≠ 0 ∧ ws.getD k 0 ≠ 2 ^ wd - 1 := by
    intro k hk
    have hk1 : k < (stuffTo s.bits wd t).1.length := by rw [stuffTo_len]; exact hk
    have e : ws.getD k 0 = (stuffTo s.bits wd t).1[k] := by
      rw [htl, List.getD, List.getElem?_append_left hk1, List.getElem?_eq_getElem hk1]; rfl
    rw [e]
    exact stuffTo_in s.bits (by omega) t _ (List.getElem_mem hk1)
  have hrun : Runs (unst wd (ws.take t)) s.text 0 0 0 [] := by
    rw [htk]
    obtain ⟨k, hk, he⟩ := unst_ones s.bits (show 3 ≤ wd by omega) hS h1
    rw [he]
    exact HSO.out k (by omega)
  have hdec := fun (W : World) (A9 : Option Addr) (c9 : Nat) (X : Nat → Nat → Bool) (hX : RdRows W A9 H (brow X H)) (hLd : LaidTo c L (layBits r wd ws) BT X) => HDE.out W t A9 c9 X ws s.text hX hLd hwl h1 (by omega) hCL hin hrun
  have h3 := HLAY.out w1 ws A1 c1 hwl (by rw [hwl]; exact hR1) hlt
  rw [hwl] at h3
  obtain ⟨MM, hMM⟩ : ∃ MM, MM + 1 = 2 ^ wd := ⟨2 ^ wd - 1, by have := Nat.two_pow_pos wd; omega⟩
  have hMM4 : MM < 4096 := by have := HPW.out; omega
  have hfull := fun (W : World) (F : Nat) (hF : Arr W F 3 (ints (List.replicate al MM))) => HLAY.out W (List.replicate al MM) (some ⟨F, 0, none⟩) al (by simp) (by have := Rd.of_arr hF; rwa [ints_len] at this) (fun x hx => by rw [List.eq_of_mem_replicate hx]; exact hMM4)
  simp only [List.length_replicate] at hfull
  have HFULL := hid hfull
  have HDEC := hid hdec
  have HL3 := hid h3
  have HB1 := hid hb1
  have HMM := hid hMM
  obtain ⟨b, hb⟩ : ∃ b, b = layBits r wd ws := ⟨_, rfl⟩
  rw [← hb] at HL3 HDEC
  obtain ⟨i3, hi3, hz0, hz1, hz2⟩ := info_parts Rs.info3
  have hmk := fun W => run_make (P := Tryz.prog) W 25 3 i3 (.int .i64 0) Tryz.underlying25 hi3 hz0 .i64 .i64 (al : Int) (al : Int) (by omega) (by omega) (by rw [hz2]; omega) (by omega)
  simp only [hz1] at hmk
  obtain ⟨st, hst⟩ : ∃ st, st = strOf s.text := ⟨_, rfl⟩
  rw [← hst] at HDEC ⊢
  clear hS ht htk hin hrun hdec h3 hfull hCL htl hR1 hb1 hlt hwl HSY HLY HLAY HDE HSO hmn hb hst hMM h2
  go_wp2_with fail
  refine HL3.out.mono ?_
  rintro e w2 ⟨G, gs, X, rfl, hU, hLd, hb2, hG⟩
  have HU := hid hU
  have HLD := hid hLd
  have HB2 := hid (HB1.out.trans (hb2.mono HB1.out.size))
  have hG1 := hU.top.lt
  have hG0 : w.heap.size ≤ G := Nat.le_trans HB1.out.size hG
  clear hU hLd hb2 hG HL3 HB1
  go_wp2_with (first | (go_at_call 7; ((with_reducible refine (HWD.out _).mono ?_); rintro e w' ⟨rfl, rfl⟩)))
  have HA3 := hid (Arr.made w2 3 (.int .i64 0) al)
  have HB3 := hid (show Below w2.heap.size w2 (w2.alloc (.cells (madeCells #[.int .i64 0] al) 3)) from (Below.refl _ _).alloc (Nat.le_refl _) _)
  obtain ⟨F, hF⟩ : ∃ F, F = w2.heap.size := ⟨_, rfl⟩
  rw [← hF] at HA3 HB3 hG1
  rw [← hF]
  have HF := hid hF
  generalize w2.alloc (.cells (madeCells #[.int .i64 0] al) 3) = w3 at *
  clear hF hmk HWD
  have hmask : wrap64 (wrap64 ((2 : Int) ^ wd) - 1) = (MM : Int) := by
    have h1 : (2 : Int) ^ wd = (MM : Int) + 1 := by
      have := congrArg (fun x : Nat => (x : Int)) HMM.out
      simp only [Int.natCast_add, Int.natCast_pow] at this
      simpa using this.symm
    rw [h1]
    rw [IntWalk.wrap64_in ((MM : Int) + 1) ⟨by omega, by omega⟩, IntWalk.wrap64_in _ ⟨by omega, by omega⟩]; omega
  have HMK := hid hmask
  clear hmask
  go_loopw [17] (fun iv wr => ∃ i : Nat, i ≤ al ∧ iv = .int .i64 (i : Nat) ∧ Hid (Arr wr F 3 (ints (List.replicate i MM ++ List.replicate (al - i) 0))) ∧ Hid (Below F w2 wr)) (fun iv _ => al - (intOf iv).toNat)
  case atStart => exact ⟨0, by omega, rfl, hid (by rw [List.replicate_zero, List.nil_append, Nat.sub_zero, ints_rep]; exact HA3.out), HB3⟩
  case round =>
  clear HA3 HB3
  obtain ⟨i, hi, rfl, HAX, HBX⟩ := hrel
  by_cases hia : i < al
  case pos =>
    have hia' : (i : Int) < (al : Int) := by omega
    obtain ⟨v0, hv0⟩ := HAX.out.has i (by rw [ints_len, List.length_append, List.length_replicate, List.length_replicate]; omega)
    have fz := HAX.out.frozen i
    have HA4 := hid (show Arr (wr.setCell ⟨F, i, none⟩ (.int .i64 (MM : Nat))) F 3 (ints (List.replicate (i + 1) MM ++ List.replicate (al - (i + 1)) 0)) from by
      have := HAX.out.set i (.int .i64 (MM : Nat))
      rwa [rep_set al MM i hia] at this)
    have HB4 := hid (show Below F w2 (wr.setCell ⟨F, i, none⟩ (.int .i64 (MM : Nat))) from HBX.out.setCell (Nat.le_refl _) _)
    clear HAX HBX
    go_wp2_with fail
    rw [HMK.out]
    go_roundw
    case rel => exact ⟨i + 1, by omega, by go_num, HA4, HB4⟩
    case measure => simp [intOf]; omega
  case neg =>
  obtain rfl : i = al := by omega
  have hia' : ¬ (i : Int) < (i : Int) := by omega
  have hAF := HAX.out
  rw [Nat.sub_self, List.replicate_zero, List.append_nil] at hAF
  have H6 := hid (HFULL.out wr F hAF)
  have HUr := hid (show RowsUp wr G 23 4 H H gs (brow X H) from HU.out.below HBX.out hG1 (fun r hr => by rw [HF.out]; exact (HU.out.row r hr).1.lt))
  have HBr := hid (show Below w.heap.size w wr from HB2.out.trans (HBX.out.mono (by rw [HF.out]; exact HB2.out.size)))
  clear hAF HAX HBX HFULL HU HB2 hG1
  go_wp2_with fail
  refine H6.out.mono ?_
  rintro e w4 ⟨G2, gs2, X2, rfl, hU2, hLd2, hb4, hG2⟩
  have hgr : ∀ r, r < H → gs r < wr.heap.size := fun r hr => (HUr.out.row r hr).1.lt
  have hGr := HUr.out.top.lt
  have HU4 := hid (HUr.out.below hb4 hGr hgr)
  have HB4 := hid (HBr.out.trans (hb4.mono HBr.out.size))
  have HU2 := hid hU2
  have H7 := hid (HUS.out w4)
  have hs4 := hb4.size
  clear hU2 hLd2 hb4 H6 HUr HBr HUS
  go_wp2_with fail
  refine H7.out.mono ?_
  rintro e w5 ⟨G3, gs3, X3, rfl, hU3, hUs, hb5, hG3⟩
  have hb9 := HB4.out.size
  have HSEP := hid (show BaSep w.heap.size H gs G2 gs2 G3 gs3 from ⟨fun r hr => ⟨by have := (HU4.out.row r hr).2; omega, by have := hgr r hr; omega, by have := hgr r hr; omega⟩, fun r hr => (HU2.out.row r hr).2, fun r hr => (hU3.row r hr).2⟩)
  have HST := hid (show BaSt w w5 G H gs X G2 gs2 X2 G3 gs3 X3 c L BT b from
    ⟨HU4.out.below hb5 HU4.out.top.lt (fun r hr => (HU4.out.row r hr).1.lt), HLD.out, HU2.out.below hb5 HU2.out.top.lt (fun r hr => (HU2.out.row r hr).1.lt), hU3, HB4.out.trans (hb5.mono hb9)⟩)
  have HUS := hid hUs
  clear hU3 hUs hb5 H7 HU4 HU2 HB4 hgr hGr hs4 hG2 hG3 hb9
  go_wp2_with fail
  have hH0 : (0 : Int) ≤ (H : Int) := by omega
  clear HF HMK HMM
  go_loopw [20, 21] (fun kv yv wr => ∃ (y k : Nat) (X : Nat → Nat → Bool), y ≤ H ∧ yv = .int .i64 (y : Nat) ∧ kv = .int .i64 (k : Nat) ∧ k ≤ 200 * y ∧ Hid (BaSt w wr G H gs X G2 gs2 X2 G3 gs3 X3 c L BT b)) (fun _ yv _ => H - (intOf yv).toNat)
  case atStart => exact ⟨0, 0, X, by omega, rfl, rfl, by omega, HST⟩
  case round =>
  clear HST HLD
  obtain ⟨y, k, X, hy, rfl, rfl, hk, HST⟩ := hrel
  by_cases hyH : y < H
  case pos =>
    have hyH' : (y : Int) < (H : Int) := by omega
    go_wp2_with fail
    obtain ⟨wy, rfl⟩ : ∃ wy : World, wy = wr := ⟨_, rfl⟩
    go_loopw [20, 22] (fun kv xv wr => ∃ (x k : Nat) (X : Nat → Nat → Bool), x ≤ H ∧ xv = .int .i64 (x : Nat) ∧ kv = .int .i64 (k : Nat) ∧ k ≤ 200 * y + x ∧ Hid (BaSt w wr G H gs X G2 gs2 X2 G3 gs3 X3 c L BT b)) (fun _ xv _ => H - (intOf xv).toNat)
    case atStart => exact ⟨0, k, X, by omega, rfl, rfl, by omega, HST⟩
    case round =>
    clear HST hk
    obtain ⟨x, k, X, hx, rfl, rfl, hk, HST⟩ := hrel
    by_cases hxH : x < H
    case neg =>
      obtain rfl : x = H := by omega
      have hx' : ¬ (x : Int) < (x : Int) := by omega
      go_wp2_with fail
      go_roundw
      case rel => exact ⟨y + 1, k, X, by omega, by go_num, rfl, by omega, HST⟩
      case measure => simp [intOf]; omega
    case pos =>
    have hx' : (x : Int) < (H : Int) := by omega
    obtain ⟨a1, a2, a3⟩ := HST.out.up.cells hyH hxH
    obtain ⟨b1, b2, b3⟩ := HST.out.dat.cells hyH hxH
    obtain ⟨c1', c2, c3⟩ := HST.out.use.cells hyH hxH
    clear b3 c3
    have HSTEP := hid (fun m (hn : X3 y x = false) v => (HST.out.drewN m).step HSEP.out HUS.out hyH (x := x) hn v)
    cases e2 : X2 y x with
    | true =>
      rw [e2] at b2
      clear e2 HSTEP
      go_wp2_with fail
      go_roundw
      case rel => exact ⟨x + 1, k, X, by omega, by go_num, rfl, by omega, HST⟩
      case measure => simp [intOf]; omega
    | false =>
    rw [e2] at b2
    clear e2
    cases e3 : X3 y x with
    | true =>
      rw [e3] at c2
      clear e3 HSTEP
      go_wp2_with fail
      go_roundw
      case rel => exact ⟨x + 1, k, X, by omega, by go_num, rfl, by omega, HST⟩
      case measure => simp [intOf]; omega
    | false =>
    rw [e3] at c2
    have HS3 := hid (fun m v => HSTEP.out m e3 v)
    clear e3 HSTEP
    by_cases hn0 : no = 0
    case pos =>
      have hn0' : ¬ (0 : Int) < (no : Int) := by omega
      go_wp2_with fail
      go_roundw
      case rel => exact ⟨x + 1, k, X, by omega, by go_num, rfl, by omega, HST⟩
      case measure => simp [intOf]; omega
    case neg =>
    have hn0' : (0 : Int) < (no : Int) := by omega
    obtain ⟨bo, oo, rfl, hbow, hco⟩ := rd_bool (HRO.out.below HST.out.bl) (k % no) (Nat.mod_lt _ (by omega))
    obtain ⟨kk, hkk⟩ : ∃ kk, kk = k % no := ⟨_, rfl⟩
    rw [← hkk] at hco
    have hkn : kk < no := by rw [hkk]; exact Nat.mod_lt _ (by omega)
    have q1 : (k : Int) % (no : Int) = (kk : Int) := by rw [hkk]; exact (Int.natCast_emod k no).symm
    have q2 : (k : Int).tmod (no : Int) = (kk : Int) := by rw [Int.tmod_eq_emod_of_nonneg (by omega)]; exact q1
    have hkn' : (kk : Int) < (no : Int) := by omega
    have q3 : ¬ (no : Int) = 0 := by omega
    have q4 : ((no : Int) == 0) = false := by rw [beq_eq_false_iff_ne]; omega
    generalize ob.getD kk false = bt at *
    clear hkk
    go_wp2_with fail
    go_region
    all_goals (
      go_wp2_with fail
      go_roundw
      case rel => exact ⟨x + 1, k + 1, _, by omega, by go_num, by go_num, by omega, hid (HS3.out _ _)⟩
      case measure => simp [intOf]; omega)
  case neg =>
  obtain rfl : y = H := by omega
  have hy' : ¬ (y : Int) < (y : Int) := by omega
  have H8 := hid (HDEC.out wr (some ⟨G, 0, none⟩) y X HST.out.up.rd HST.out.laid)
  have HB := hid HST.out.bl
  clear HST HDEC HSEP HUS
  go_wp2_with fail
  refine H8.out.mono ?_
  rintro e w6 ⟨n4, n8, n6, n7, x3, B1, B2, m1, d1, m2, d2, rfl, hb6⟩
  have HB6 := hid (HB.out.trans (hb6.mono HB.out.size))
  clear hb6 H8 HB
  go_wp2_with fail
  go_ret
  exact ⟨rfl, HB6.out.alloc HB6.out.size _⟩

/-- For every input FnAZBare returns true. -/
theorem FnAZBare_walk (w : World) (A : Option Addr) (len cap : Nat) (zs : List Int) (hS : SlIn w A len cap (zs.map (Value.int .u8))) (hwf : ∀ n ∈ zs, (Lit.int .u8 n).wf = true) (c : Bool) (z : Int) (hz : (Lit.int .u8 z).wf = true)
    (Ao : Option Addr) (lo co : Nat) (ob : List Bool) (hSo : SlIn w Ao lo co (ob.map Value.bool)) :
    Calls Tryz.prog 3 #[.slice A len cap, .bool c, .int .u8 z, .slice Ao lo co] w (fun e w' => e = .returned (.bool true) ∧ Below w.heap.size w w') := by
  obtain ⟨h1, h2⟩ := u8s_of zs hwf
  have hR := hS.rd
  rw [h1] at hR
  obtain ⟨hl, hlc, hcm, _⟩ := hS
  have hl2 : (zs.map Int.toNat).length = len := by simpa using hl
  have hzz := wf_u8 hz
  obtain ⟨n, rfl⟩ : ∃ n : Nat, z = (n : Nat) := ⟨z.toNat, by omega⟩
  have := bare_core w A cap (zs.map Int.toNat) c n Ao lo co ob (by rw [hl2]; exact hR) h2 (by omega) hcm (by omega) hSo.rd
  rw [hl2] at this
  exact this
end Go.Proofs.YtliephokeafllaaGreatDoor
