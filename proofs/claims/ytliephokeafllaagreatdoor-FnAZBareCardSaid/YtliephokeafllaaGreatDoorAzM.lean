/- decoder.extractBits. -/
import Derived.Test.YtliephokeafllaaGreatDoorAzK
namespace Go.Proofs.YtliephokeafllaaGreatDoor
open Go.RowKit
set_option linter.unusedVariables false
set_option linter.unusedSimpArgs false

/-- Bits in new memory. -/
def BitsNew (T : Nat) (b : List Bool) (w : World) (e : Ending) (w' : World) : Prop :=
  ∃ g, e = .returned (.slice (some ⟨g, 0, none⟩) T T) ∧ Arr w' g 4 (b.map Value.bool) ∧ Below w.heap.size w w' ∧ w.heap.size ≤ g

/-- Ways that end alike are walked on once. -/
structure Kept (P : Prop) : Prop where
  out : P
theorem dedup {P Q : Prop} (h : Kept P → Q) (p : P) : Q := h ⟨p⟩

set_option maxRecDepth 100000 in
set_option maxHeartbeats 16000000 in
theorem extractF (L : Nat) (hL0 : 1 ≤ L) (hL : L ≤ 32) (d dd q g rs nb : Nat) (pv : Value) (ws : List Nat) (B : Nat → Nat → Bool) (b : List Bool) (w : World)
    (hd : w.cell? ⟨d, 0, none⟩ = some (.pointer (some ⟨dd, 0, none⟩))) (hdw : d < w.heap.size) (hdd : Arr w dd 82 [pv, .bool false, .int .i64 (nb : Nat), .int .i64 (L : Nat)])
    (hM : IsMat w q g 145 146 (azWhole false L) (azWhole false L) rs ws B) (hg : g < w.heap.size) (hrs : rs ≤ 32) (hb : b.length = azBitsN false L)
    (hB : ∀ i k j n, AzIn false L i k j n → B (azX false L i k j n) (azY false L i k j n) = b.getD (azIdx false L i k j n) false) :
    Calls Tryz.prog 39 #[.pointer (some ⟨d, 0, none⟩), .pointer (some ⟨q, 0, none⟩)] w (BitsNew (azBitsN false L) b w) := by
  obtain ⟨i3, hi3, hb0, hb1, hb2⟩ := info_of info3
  obtain ⟨i4, hi4, hd0, hd1, hd2⟩ := info_of info4
  obtain ⟨S, hS⟩ : ∃ S, S = azSide false L := ⟨_, rfl⟩
  obtain ⟨H, hH⟩ : ∃ H, H = azWhole false L := ⟨_, rfl⟩
  obtain ⟨BT, hBT⟩ : ∃ BT, BT = azBitsN false L := ⟨_, rfl⟩
  have hbl := azBitsN_le false hL
  have HS := hid hS
  have HH := hid hH
  have HBT := hid hBT
  have hS200 : S ≤ 200 := by rw [hS]; simp [azSide]; omega
  have hS1 : 1 ≤ S := by rw [hS]; simp [azSide]; omega
  have hH200 : H ≤ 200 := by rw [hH]; simp [azWhole, azHalf]; omega
  have hSS : (L : Int) * 4 + 14 = (S : Nat) := by rw [hS]; simp [azSide]; omega
  rw [← hH] at hM
  rw [← hBT] at hbl hb ⊢
  have hmk := fun W => run_make (P := Tryz.prog) W 25 3 i3 (.int .i64 0) Tryz.underlying25 hi3 hb0 .i64 .i64 (S : Int) (S : Int) (by omega) (by omega) (by rw [hb2]; omega) (by omega)
  simp only [hb1, show (Value.int IntKind.i64 0).cells = #[.int .i64 0] from rfl] at hmk
  have hmk2 := fun W => run_make (P := Tryz.prog) W 23 4 i4 (.bool false) Tryz.underlying23 hi4 hd0 .i64 .i64 (BT : Int) (BT : Int) (by omega) (by omega) (by rw [hd2]; omega) (by omega)
  simp only [hd1, show (Value.bool false).cells = #[.bool false] from rfl] at hmk2
  have HC1 := hid (isCompactM dd nb L false pv w hdd)
  have HC2 := hid (nbLayersM dd nb L false pv w hdd)
  have HC3 := hid (fun W => totalBitsM false L hL W)
  rw [← hBT] at HC3
  obtain ⟨w1, hw1⟩ : ∃ w1, w1 = w.alloc (.cells (madeCells #[.int .i64 0] S) 3) := ⟨_, rfl⟩
  have HZ := hid (show Arr (w1.alloc (.cells (madeCells #[.bool false] BT) 4)) w.heap.size 3 (ints ((List.range S).map fun _ => 0)) by rw [← range_zero, hw1]; exact (Arr.made w 3 _ S).alloc _)
  have hw1s : w1.heap.size = w.heap.size + 1 := by rw [hw1]; simp
  have HR0 := hid (show Arr (w1.alloc (.cells (madeCells #[.bool false] BT) 4)) (w.heap.size + 1) 4 ((List.range BT).map fun t => Value.bool ((fun _ => false) t)) by
    have h1 := Arr.made w1 4 (.bool false) BT
    rw [hw1s] at h1
    rwa [show List.replicate BT (Value.bool false) = (List.range BT).map fun t => Value.bool ((fun _ => false) t) by
      apply List.ext_getElem
      · simp
      · intro i a b; simp] at h1)
  have HBW := hid (show Below w.heap.size w (w1.alloc (.cells (madeCells #[.bool false] BT) 4)) from by rw [hw1]; exact ((Below.refl _ _).alloc (Nat.le_refl _) _).alloc (by simp) _)
  have HSEP := hid (show ExSep w.heap.size w.heap.size (w.heap.size + 1) q g from ⟨Nat.le_refl _, by omega, hM.lt, hg⟩)
  have HMAT := hid (hM.below HBW.out hM.lt)
  have HBB := hid hB
  have HLB := hid hb
  clear hB hb hM hdd
  obtain ⟨Hf, hHf⟩ : ∃ Hf, Hf = azHalf L := ⟨_, rfl⟩
  obtain ⟨M, hM⟩ : ∃ M, M = azMid L := ⟨_, rfl⟩
  have hSH : S = 2 * Hf := by rw [hS, hHf]; simp [azSide, azHalf]; omega
  have hH7 : Hf ≤ 71 := by rw [hHf]; simp [azHalf]; omega
  have hH1 : 1 ≤ Hf := by rw [hHf]; simp [azHalf]; omega
  have hMM : M = Hf + (Hf - 1) / 15 := by rw [hM, hHf]; rfl
  have hWW : H = S + 1 + 2 * ((Hf - 1) / 15) := by rw [hH, hS, hHf]; rfl
  have HPL := hid (show ∀ u, azPl false L u = if u < Hf then M - ((Hf - 1 - u) + (Hf - 1 - u) / 15) - 1 else M + ((u - Hf) + (u - Hf) / 15) + 1 by
    intro u
    rw [hHf, hM]
    simp [azPl])
  have e1 : (S : Int) / 2 = (Hf : Nat) := by omega
  have e2 : (S : Int) + 1 + 2 * (((Hf : Int) - 1) / 15) = (H : Nat) := by omega
  have e3 : (H : Int) / 2 = (M : Nat) := by omega
  have hMb : M ≤ 100 := by omega
  have hMlo : Hf + (Hf - 1) / 15 ≤ M := by omega
  have hSb : S ≤ 2 * Hf := by omega
  have hSb2 : 2 * Hf ≤ S := by omega
  clear hHf hM hSH hMM hWW
  have HW1 := hid hw1
  clear hw1s hS hH hBT
  go_enter Tryz.func39, Tryz.ntmps39
  go_wp2_with (first | (go_at_call 54; ((with_reducible refine HC1.out.mono ?_); rintro e w' ⟨rfl, rfl⟩)) | (go_at_call 55; ((with_reducible refine HC2.out.mono ?_); rintro e w' ⟨rfl, rfl⟩)) | (go_at_call 56; ((with_reducible refine (HC3.out _).mono ?_); rintro e w' ⟨rfl, rfl⟩)))
  rw [← HW1.out]
  generalize w1.alloc (.cells (madeCells #[.bool false] BT) 4) = w2 at *
  have HX0 := hid (show ExSt w w2 w.heap.size (w.heap.size + 1) q g H rs ws B ((List.range S).map fun _ => 0) BT (fun _ => false) from ⟨HZ.out, HR0.out, HMAT.out, HBW.out⟩)
  have hgl := fun F : Nat → Nat => show (ints ((List.range S).map F)).length = S from by rw [ints_len, List.length_map, List.length_range]
  have HGL := hid hgl
  clear hgl HZ HR0 HMAT HBW hmk hmk2 HC1 HC2 HC3 hSS hd HW1
  go_loopw [14] (fun iv wr => ∃ i : Nat, i ≤ Hf ∧ iv = .int .i64 (i : Nat) ∧ Hid (ExSt w wr w.heap.size (w.heap.size + 1) q g H rs ws B ((List.range S).map fun u => if Hf ≤ u + i ∧ u < Hf + i then azPl false L u else 0) BT (fun _ => false))) (fun iv _ => Hf - (intOf iv).toNat)
  case atStart => exact ⟨0, by omega, rfl, hid (HX0.out.congr (range_congr S (fun _ => 0) _ (fun u _ => by rw [if_neg (by omega)])))⟩
  case round =>
    obtain ⟨i, hi, rfl, HX⟩ := hrel
    clear HX0
    by_cases hlt : i < Hf
    case pos =>
      have hlt' : (i : Int) < (Hf : Int) := by omega
      obtain ⟨mo, hmo⟩ : ∃ mo, mo = i + i / 15 := ⟨_, rfl⟩
      have e4 : (i : Int) + (i : Int) / 15 = (mo : Nat) := by omega
      have hmo2 : mo + 1 ≤ M := by omega
      obtain ⟨u1, hu1⟩ : ∃ u1, u1 = Hf - i - 1 := ⟨_, rfl⟩
      obtain ⟨u2, hu2⟩ : ∃ u2, u2 = Hf + i := ⟨_, rfl⟩
      obtain ⟨v1, hv1⟩ : ∃ v1, v1 = M - mo - 1 := ⟨_, rfl⟩
      obtain ⟨v2, hv2⟩ : ∃ v2, v2 = M + mo + 1 := ⟨_, rfl⟩
      have e5 : (Hf : Int) - (i : Int) - 1 = (u1 : Nat) := by omega
      have e6 : (M : Int) - (mo : Int) - 1 = (v1 : Nat) := by omega
      have e7 : (Hf : Int) + (i : Int) = (u2 : Nat) := by omega
      have e8 : (M : Int) + (mo : Int) + 1 = (v2 : Nat) := by omega
      have hp1 : azPl false L u1 = v1 := by rw [HPL.out, if_pos (by omega), hv1, hmo, show Hf - 1 - u1 = i by omega]
      have hp2 : azPl false L u2 = v2 := by rw [HPL.out, if_neg (by omega), hv2, hmo, show u2 - Hf = i by omega]
      have hu1S : u1 < S := by omega
      have hu2S : u2 < S := by omega
      obtain ⟨cv, hcv⟩ := HX.out.amap.has u1 (by rw [HGL.out]; exact hu1S)
      have fz := HX.out.amap.frozen u1
      have hA1 := HX.out.place HSEP.out u1 v1
      rw [range_set S u1 v1 _ hu1S] at hA1
      obtain ⟨cv2, hcv2⟩ := hA1.amap.has u2 (by rw [HGL.out]; exact hu2S)
      have fz2 := hA1.amap.frozen u2
      have hA2 := hA1.place HSEP.out u2 v2
      rw [range_set S u2 v2 _ hu2S] at hA2
      have HX3 := hid (hA2.congr (range_congr S _ (fun u => if Hf ≤ u + (i + 1) ∧ u < Hf + (i + 1) then azPl false L u else 0) (fun u _ => by
            by_cases a1 : u = u2
            · rw [if_pos a1, if_pos (by omega), a1, hp2]
            rw [if_neg a1]
            by_cases a2 : u = u1
            · rw [if_pos a2, if_pos (by omega), a2, hp1]
            rw [if_neg a2]
            by_cases a3 : Hf ≤ u + i ∧ u < Hf + i
            · rw [if_pos a3, if_pos (by omega)]
            · rw [if_neg a3, if_neg (by omega)])))
      clear HX hA1 hA2 hp1 hp2 hmo hu1 hu2 hv1 hv2
      go_wp2_with fail
      go_roundw
      case rel => exact ⟨i + 1, by omega, by go_num, HX3⟩
      case measure => simp [intOf]; omega
    case neg =>
    obtain rfl : i = Hf := by omega
    have hlt' : ¬ (i : Int) < (i : Int) := by omega
    have HX0 := hid (HX.out.congr (range_congr S _ (azPl false L) (fun u hu => by rw [if_pos (by omega)])))
    clear HX
    have HBG := hid (show GotTo false L b 0 0 0 (fun _ => false) from GotTo.zero _ _ _ _)
    obtain ⟨wo, rfl⟩ : ∃ wo : World, wo = wr := ⟨_, rfl⟩
    have HMEM := hid (show ∀ (W : World) (F : Nat → Bool) (x y : Nat), ExSt w W w.heap.size (w.heap.size + 1) q g H rs ws B ((List.range S).map (azPl false L)) BT F → x < H → y < H → Calls Tryz.prog 57 #[.pointer (some ⟨q, 0, none⟩), .int .i64 (x : Nat), .int .i64 (y : Nat)] W (fun e w' => e = .returned (.bool (B x y)) ∧ W = w') from
      fun W F x y hX hx hy => getBit q g H H rs x y ws B W hX.mat hx hy (by omega) hrs)
    go_wp2_with fail
    go_loopw [16, 17] (fun iv av wr => ∃ (i at_ : Nat) (F : Nat → Bool), i ≤ L ∧ iv = .int .i64 (i : Nat) ∧ av = .int .i64 (at_ : Nat) ∧ Hid (at_ = azRow false L i) ∧ Hid (GotTo false L b i 0 0 F) ∧ Hid (ExSt w wr w.heap.size (w.heap.size + 1) q g H rs ws B ((List.range S).map (azPl false L)) BT F)) (fun iv _ _ => L - (intOf iv).toNat)
    case atStart => exact ⟨0, 0, _, by omega, rfl, rfl, hid rfl, HBG, HX0⟩
    case round =>
      clear HX0 HBG
      obtain ⟨i, at_, F, hi, rfl, rfl, HAT, HGT, HX⟩ := hrel
      by_cases hiL : i < L
      case neg =>
        obtain rfl : i = L := by omega
        have h2' : ¬ (i : Int) < (i : Int) := by omega
        go_wp2_with fail
        go_ret
        refine ⟨_, rfl, ?_, HX.out.bl, by omega⟩
        have h1 := HGT.out.all (by rw [HLB.out, HBT.out])
        have h2 := HX.out.res
        rw [HBT.out, h1] at h2
        exact h2
      case pos =>
      have h2' : (i : Int) < (L : Int) := by omega
      obtain ⟨lg, hlg⟩ : ∃ lg, lg = azLong false L i := ⟨_, rfl⟩
      have HLG := hid hlg
      have hside := azLong_side (c := false) hiL
      rw [← hlg, ← HS.out] at hside
      have hlg3 : ((L : Int) - (i : Int)) * 4 + 12 = (lg : Nat) := by
        rw [hlg]; unfold azLong
        simp; omega
      have hlgb : lg ≤ 200 := by omega
      have hatb : at_ ≤ 20000 := by
        have h1 : azRow false L i ≤ azBitsN false L := by
          rw [← azRow_all]
          have := azRow_mono (c := false) (L := L) hiL
          omega
        rw [HAT.out]
        rw [HBT.out] at hbl
        omega
      clear hlg
      obtain ⟨lo, hlo⟩ : ∃ lo, lo = 2 * i := ⟨_, rfl⟩
      obtain ⟨hh, hhh⟩ : ∃ hh, hh = S - 1 - 2 * i := ⟨_, rfl⟩
      have k1 : (i : Int) * 2 = (lo : Nat) := by omega
      have k2 : (S : Int) - 1 - (lo : Int) = (hh : Nat) := by omega
      have hlob : lo + lg + 2 ≤ S := by omega
      have hhhb : lg + lo + 1 ≤ hh := by omega
      have hhhb2 : hh + 1 ≤ S := by omega
      have HLO := hid hlo
      have HHI := hid hhh
      clear hlo hhh
      go_wp2_with fail
      clear k1 k2 hlg3
      obtain ⟨wj, rfl⟩ : ∃ wj : World, wj = wr := ⟨_, rfl⟩
      go_loopw [21] (fun jv wr => ∃ (j : Nat) (F : Nat → Bool), j ≤ lg ∧ jv = .int .i64 (j : Nat) ∧ Hid (GotTo false L b i j 0 F) ∧ Hid (ExSt w wr w.heap.size (w.heap.size + 1) q g H rs ws B ((List.range S).map (azPl false L)) BT F)) (fun jv _ => lg - (intOf jv).toNat)
      case atStart => exact ⟨0, F, by omega, rfl, HGT, HX⟩
      case round =>
        clear HX HGT
        obtain ⟨j, F, hj, rfl, HGT, HX⟩ := hrel
        by_cases hjl : j < lg
        case neg =>
          obtain rfl : j = lg := by omega
          have hjl' : ¬ (j : Int) < (j : Int) := by omega
          have h8 : (at_ : Int) + (j : Int) * 8 = ((at_ + 8 * j : Nat) : Int) := by omega
          go_wp2_with fail
          go_roundw
          case rel => exact ⟨i + 1, at_ + 8 * j, F, by omega, by go_num, by go_num, hid (by rw [azRow, ← HAT.out, HLG.out]), hid (by have := HGT.out; rw [HLG.out] at this; exact this.row), HX⟩
          case measure => simp [intOf]; omega
        case pos =>
        have hjl' : (j : Int) < (lg : Int) := by omega
        obtain ⟨co, hco⟩ : ∃ co, co = 2 * j := ⟨_, rfl⟩
        have k3 : (j : Int) * 2 = (co : Nat) := by omega
        have hcob : co ≤ 400 := by omega
        have HCO := hid hco
        clear hco
        go_wp2_with fail
        clear k3
        obtain ⟨wn, rfl⟩ : ∃ wn : World, wn = wr := ⟨_, rfl⟩
        go_loopw [23] (fun nv wr => ∃ (n : Nat) (F : Nat → Bool), n ≤ 2 ∧ nv = .int .i64 (n : Nat) ∧ Hid (GotTo false L b i j n F) ∧ Hid (ExSt w wr w.heap.size (w.heap.size + 1) q g H rs ws B ((List.range S).map (azPl false L)) BT F)) (fun nv _ => 2 - (intOf nv).toNat)
        case atStart => exact ⟨0, F, by omega, rfl, HGT, HX⟩
        case round =>
          clear HX HGT
          obtain ⟨n, F, hn, rfl, HGT, HX⟩ := hrel
          by_cases hn2 : n < 2
          case neg =>
            obtain rfl : n = 2 := by omega
            go_wp2_with fail
            go_roundw
            case rel => exact ⟨j + 1, F, by omega, by go_num, hid HGT.out.col, HX⟩
            case measure => simp [intOf]; omega
          case pos =>
          have hn2' : (n : Int) < 2 := by omega
          have I0 := hid (show AzIn false L i 0 j n from ⟨hiL, by decide, by rw [← HLG.out]; exact hjl, hn2⟩)
          have I1 := hid (show AzIn false L i 1 j n from ⟨hiL, by decide, by rw [← HLG.out]; exact hjl, hn2⟩)
          have I2 := hid (show AzIn false L i 2 j n from ⟨hiL, by decide, by rw [← HLG.out]; exact hjl, hn2⟩)
          have I3 := hid (show AzIn false L i 3 j n from ⟨hiL, by decide, by rw [← HLG.out]; exact hjl, hn2⟩)
          have HST := hid HGT.out.step
          obtain ⟨t0, ht0⟩ : ∃ t, t = azIdx false L i 0 j n := ⟨_, rfl⟩
          obtain ⟨t1, ht1⟩ : ∃ t, t = azIdx false L i 1 j n := ⟨_, rfl⟩
          obtain ⟨t2, ht2⟩ : ∃ t, t = azIdx false L i 2 j n := ⟨_, rfl⟩
          obtain ⟨t3, ht3⟩ : ∃ t, t = azIdx false L i 3 j n := ⟨_, rfl⟩
          have q0 : t0 < BT := by rw [ht0, HBT.out]; exact azIdx_lt I0.out
          have q1 : t1 < BT := by rw [ht1, HBT.out]; exact azIdx_lt I1.out
          have q2 : t2 < BT := by rw [ht2, HBT.out]; exact azIdx_lt I2.out
          have q3 : t3 < BT := by rw [ht3, HBT.out]; exact azIdx_lt I3.out
          obtain ⟨b0, hb0⟩ : ∃ t, t = b.getD (azIdx false L i 0 j n) false := ⟨_, rfl⟩
          obtain ⟨b1, hb1⟩ : ∃ t, t = b.getD (azIdx false L i 1 j n) false := ⟨_, rfl⟩
          obtain ⟨b2, hb2⟩ : ∃ t, t = b.getD (azIdx false L i 2 j n) false := ⟨_, rfl⟩
          obtain ⟨b3, hb3⟩ : ∃ t, t = b.getD (azIdx false L i 3 j n) false := ⟨_, rfl⟩
          obtain ⟨a1, ha1⟩ : ∃ a, a = lo + n := ⟨_, rfl⟩
          obtain ⟨a2, ha2⟩ : ∃ a, a = hh - n := ⟨_, rfl⟩
          obtain ⟨a3, ha3⟩ : ∃ a, a = lo + j := ⟨_, rfl⟩
          obtain ⟨a4, ha4⟩ : ∃ a, a = hh - j := ⟨_, rfl⟩
          obtain ⟨P1, hP1⟩ : ∃ P, P = azPl false L a1 := ⟨_, rfl⟩
          obtain ⟨P2, hP2⟩ : ∃ P, P = azPl false L a2 := ⟨_, rfl⟩
          obtain ⟨P3, hP3⟩ : ∃ P, P = azPl false L a3 := ⟨_, rfl⟩
          obtain ⟨P4, hP4⟩ : ∃ P, P = azPl false L a4 := ⟨_, rfl⟩
          have X0 : B P1 P3 = b0 := by rw [hb0, ← HBB.out i 0 j n I0.out, hP1, hP3, ha1, ha3, HLO.out]; rfl
          have X1 : B P3 P2 = b1 := by rw [hb1, ← HBB.out i 1 j n I1.out, hP3, hP2, ha3, ha2, HLO.out, HHI.out, HS.out]; rfl
          have X2 : B P2 P4 = b2 := by rw [hb2, ← HBB.out i 2 j n I2.out, hP2, hP4, ha2, ha4, HHI.out, HS.out]; rfl
          have X3 : B P4 P1 = b3 := by rw [hb3, ← HBB.out i 3 j n I3.out, hP4, hP1, ha1, ha4, HLO.out, HHI.out, HS.out]; rfl
          rw [← ht0, ← ht1, ← ht2, ← ht3] at HST
          rw [← ht0] at hb0
          rw [← ht1] at hb1
          rw [← ht2] at hb2
          rw [← ht3] at hb3
          rw [← hb0, ← hb1, ← hb2, ← hb3] at HST
          unfold azIdx at ht0 ht1 ht2 ht3
          rw [← HAT.out, ← HLG.out] at ht0 ht1 ht2 ht3
          obtain ⟨⟨l1, l2, l3, l4⟩, ⟨l1', l2', l3', l4'⟩, s0, s1, s2, s3, s4, s5, s6, s7, s8, s9, s10, s11, s12, s13, z1, z2, z3, z4⟩ := exNums hatb hlgb hn2 hjl HCO.out hlob hhhb hhhb2 hS200 ha1 ha2 ha3 ha4 ht0 ht1 ht2 ht3
          have y1 : P1 < H := by rw [hP1, HH.out]; exact azPl_lt (by rw [← HS.out]; exact l1)
          have y2 : P2 < H := by rw [hP2, HH.out]; exact azPl_lt (by rw [← HS.out]; exact l2)
          have y3 : P3 < H := by rw [hP3, HH.out]; exact azPl_lt (by rw [← HS.out]; exact l3)
          have y4 : P4 < H := by rw [hP4, HH.out]; exact azPl_lt (by rw [← HS.out]; exact l4)
          have q0' : (t0 : Int) < (BT : Int) := Int.ofNat_lt.2 q0
          have q1' : (t1 : Int) < (BT : Int) := Int.ofNat_lt.2 q1
          have q2' : (t2 : Int) < (BT : Int) := Int.ofNat_lt.2 q2
          have q3' : (t3 : Int) < (BT : Int) := Int.ofNat_lt.2 q3
          have HPC := hid (show ∀ (W : World) (F : Nat → Bool), ExSt w W w.heap.size (w.heap.size + 1) q g H rs ws B ((List.range S).map (azPl false L)) BT F →
              (W.cell? ⟨w.heap.size, a1, none⟩ = some (.int .i64 (P1 : Nat)) ∧ W.cell? ⟨w.heap.size, a2, none⟩ = some (.int .i64 (P2 : Nat)) ∧ W.cell? ⟨w.heap.size, a3, none⟩ = some (.int .i64 (P3 : Nat)) ∧ W.cell? ⟨w.heap.size, a4, none⟩ = some (.int .i64 (P4 : Nat))) ∧
              (∀ t, t < BT → ∃ v, W.cell? ⟨w.heap.size + 1, t, none⟩ = some v) ∧ ∀ t, W.frozen? ⟨w.heap.size + 1, t, none⟩ = false from fun W F hX => by
            have pc2 := fun u (hu : u < S) => show W.cell? ⟨w.heap.size, u, none⟩ = some (.int .i64 (azPl false L u : Nat)) from by rw [hX.amap.cell u (by rw [HGL.out]; exact hu)]; simp [ints]
            exact ⟨⟨by rw [pc2 a1 l1, hP1], by rw [pc2 a2 l2, hP2], by rw [pc2 a3 l3, hP3], by rw [pc2 a4 l4, hP4]⟩, fun t ht => hX.res.has t (by simpa using ht), fun t => hX.res.frozen t⟩)
          obtain ⟨⟨c1, c2, c3, c4⟩, hcs, hfz⟩ := HPC.out wr F HX.out
          obtain ⟨v0, hv0⟩ := hcs t0 q0
          have fz0 := hfz t0
          have hm := HMEM.out wr.drew F P1 P3 HX.out.drew y1 y3
          rw [X0] at hm
          have HM0 := hid hm
          clear hcs hfz hm ht0 ht1 ht2 ht3 hb0 hb1 hb2 hb3 hP1 hP2 hP3 hP4 ha1 ha2 ha3 ha4 HGT I0 I1 I2 I3
          go_wp2_with fail
          apply dedup
          · intro hP
            go_region_with ((go_at_call 57; ((with_reducible refine HM0.out.mono ?_); rintro e w5 ⟨rfl, rfl⟩)))
            all_goals exact hP.out
          have HX1 := hid (HX.out.store HSEP.out t0 b0).drew
          generalize (wr.setCell ⟨w.heap.size + 1, t0, none⟩ (.bool b0)).drew = w3 at *
          clear HM0 c1 c2 c3 c4 v0 hv0 fz0 HX
          obtain ⟨⟨c1, c2, c3, c4⟩, hcs, hfz⟩ := HPC.out w3 _ HX1.out
          obtain ⟨v0, hv0⟩ := hcs t1 q1
          have fz0 := hfz t1
          have hm := HMEM.out w3.drew _ P3 P2 HX1.out.drew y3 y2
          rw [X1] at hm
          have HM1 := hid hm
          clear hcs hfz hm
          go_wp2_with fail
          apply dedup
          · intro hP
            go_region_with ((go_at_call 57; ((with_reducible refine HM1.out.mono ?_); rintro e w5 ⟨rfl, rfl⟩)))
            all_goals exact hP.out
          have HX2 := hid (HX1.out.store HSEP.out t1 b1).drew
          generalize (w3.setCell ⟨w.heap.size + 1, t1, none⟩ (.bool b1)).drew = w4 at *
          clear HM1 c1 c2 c3 c4 v0 hv0 fz0 HX1
          obtain ⟨⟨c1, c2, c3, c4⟩, hcs, hfz⟩ := HPC.out w4 _ HX2.out
          obtain ⟨v0, hv0⟩ := hcs t2 q2
          have fz0 := hfz t2
          have hm := HMEM.out w4.drew _ P2 P4 HX2.out.drew y2 y4
          rw [X2] at hm
          have HM2 := hid hm
          clear hcs hfz hm
          go_wp2_with fail
          apply dedup
          · intro hP
            go_region_with ((go_at_call 57; ((with_reducible refine HM2.out.mono ?_); rintro e w5 ⟨rfl, rfl⟩)))
            all_goals exact hP.out
          have HX3 := hid (HX2.out.store HSEP.out t2 b2).drew
          generalize (w4.setCell ⟨w.heap.size + 1, t2, none⟩ (.bool b2)).drew = w6 at *
          clear HM2 c1 c2 c3 c4 v0 hv0 fz0 HX2
          obtain ⟨⟨c1, c2, c3, c4⟩, hcs, hfz⟩ := HPC.out w6 _ HX3.out
          obtain ⟨v0, hv0⟩ := hcs t3 q3
          have fz0 := hfz t3
          have hm := HMEM.out w6.drew _ P4 P1 HX3.out.drew y4 y1
          rw [X3] at hm
          have HM3 := hid hm
          clear hcs hfz hm
          go_wp2_with fail
          apply dedup
          · intro hP
            go_region_with ((go_at_call 57; ((with_reducible refine HM3.out.mono ?_); rintro e w5 ⟨rfl, rfl⟩)))
            all_goals exact hP.out
          have HX4 := hid (HX3.out.store HSEP.out t3 b3).drew
          generalize (w6.setCell ⟨w.heap.size + 1, t3, none⟩ (.bool b3)).drew = w7 at *
          clear HM3 c1 c2 c3 c4 v0 hv0 fz0 HX3
          go_wp2_with fail
          go_roundw
          case rel => exact ⟨n + 1, _, by omega, by go_num, HST, HX4⟩
          case measure => simp [intOf]; omega
set_option maxRecDepth 100000 in
set_option maxHeartbeats 16000000 in
theorem extractT (L : Nat) (hL0 : 1 ≤ L) (hL : L ≤ 32) (d dd q g rs nb : Nat) (pv : Value) (ws : List Nat) (B : Nat → Nat → Bool) (b : List Bool) (w : World)
    (hd : w.cell? ⟨d, 0, none⟩ = some (.pointer (some ⟨dd, 0, none⟩))) (hdw : d < w.heap.size) (hdd : Arr w dd 82 [pv, .bool true, .int .i64 (nb : Nat), .int .i64 (L : Nat)])
    (hM : IsMat w q g 145 146 (azWhole true L) (azWhole true L) rs ws B) (hg : g < w.heap.size) (hrs : rs ≤ 32) (hb : b.length = azBitsN true L)
    (hB : ∀ i k j n, AzIn true L i k j n → B (azX true L i k j n) (azY true L i k j n) = b.getD (azIdx true L i k j n) false) :
    Calls Tryz.prog 39 #[.pointer (some ⟨d, 0, none⟩), .pointer (some ⟨q, 0, none⟩)] w (BitsNew (azBitsN true L) b w) := by
  obtain ⟨i3, hi3, hb0, hb1, hb2⟩ := info_of info3
  obtain ⟨i4, hi4, hd0, hd1, hd2⟩ := info_of info4
  obtain ⟨S, hS⟩ : ∃ S, S = azSide true L := ⟨_, rfl⟩
  obtain ⟨H, hH⟩ : ∃ H, H = azWhole true L := ⟨_, rfl⟩
  obtain ⟨BT, hBT⟩ : ∃ BT, BT = azBitsN true L := ⟨_, rfl⟩
  have hbl := azBitsN_le true hL
  have HS := hid hS
  have HH := hid hH
  have HBT := hid hBT
  have hS200 : S ≤ 200 := by rw [hS]; simp [azSide]; omega
  have hS1 : 1 ≤ S := by rw [hS]; simp [azSide]; omega
  have hH200 : H ≤ 200 := by rw [hH]; simp [azWhole, azHalf]; omega
  have hSS : (L : Int) * 4 + 11 = (S : Nat) := by rw [hS]; simp [azSide]; omega
  rw [← hH] at hM
  rw [← hBT] at hbl hb ⊢
  have hmk := fun W => run_make (P := Tryz.prog) W 25 3 i3 (.int .i64 0) Tryz.underlying25 hi3 hb0 .i64 .i64 (S : Int) (S : Int) (by omega) (by omega) (by rw [hb2]; omega) (by omega)
  simp only [hb1, show (Value.int IntKind.i64 0).cells = #[.int .i64 0] from rfl] at hmk
  have hmk2 := fun W => run_make (P := Tryz.prog) W 23 4 i4 (.bool false) Tryz.underlying23 hi4 hd0 .i64 .i64 (BT : Int) (BT : Int) (by omega) (by omega) (by rw [hd2]; omega) (by omega)
  simp only [hd1, show (Value.bool false).cells = #[.bool false] from rfl] at hmk2
  have HC1 := hid (isCompactM dd nb L true pv w hdd)
  have HC2 := hid (nbLayersM dd nb L true pv w hdd)
  have HC3 := hid (fun W => totalBitsM true L hL W)
  rw [← hBT] at HC3
  obtain ⟨w1, hw1⟩ : ∃ w1, w1 = w.alloc (.cells (madeCells #[.int .i64 0] S) 3) := ⟨_, rfl⟩
  have HZ := hid (show Arr (w1.alloc (.cells (madeCells #[.bool false] BT) 4)) w.heap.size 3 (ints ((List.range S).map fun _ => 0)) by rw [← range_zero, hw1]; exact (Arr.made w 3 _ S).alloc _)
  have hw1s : w1.heap.size = w.heap.size + 1 := by rw [hw1]; simp
  have HR0 := hid (show Arr (w1.alloc (.cells (madeCells #[.bool false] BT) 4)) (w.heap.size + 1) 4 ((List.range BT).map fun t => Value.bool ((fun _ => false) t)) by
    have h1 := Arr.made w1 4 (.bool false) BT
    rw [hw1s] at h1
    rwa [show List.replicate BT (Value.bool false) = (List.range BT).map fun t => Value.bool ((fun _ => false) t) by
      apply List.ext_getElem
      · simp
      · intro i a b; simp] at h1)
  have HBW := hid (show Below w.heap.size w (w1.alloc (.cells (madeCells #[.bool false] BT) 4)) from by rw [hw1]; exact ((Below.refl _ _).alloc (Nat.le_refl _) _).alloc (by simp) _)
  have HSEP := hid (show ExSep w.heap.size w.heap.size (w.heap.size + 1) q g from ⟨Nat.le_refl _, by omega, hM.lt, hg⟩)
  have HMAT := hid (hM.below HBW.out hM.lt)
  have HBB := hid hB
  have HLB := hid hb
  clear hB hb hM hdd
  have HW1 := hid hw1
  clear hw1s hS hH hBT
  go_enter Tryz.func39, Tryz.ntmps39
  go_wp2_with (first | (go_at_call 54; ((with_reducible refine HC1.out.mono ?_); rintro e w' ⟨rfl, rfl⟩)) | (go_at_call 55; ((with_reducible refine HC2.out.mono ?_); rintro e w' ⟨rfl, rfl⟩)) | (go_at_call 56; ((with_reducible refine (HC3.out _).mono ?_); rintro e w' ⟨rfl, rfl⟩)))
  rw [← HW1.out]
  generalize w1.alloc (.cells (madeCells #[.bool false] BT) 4) = w2 at *
  have HX0 := hid (show ExSt w w2 w.heap.size (w.heap.size + 1) q g H rs ws B ((List.range S).map fun _ => 0) BT (fun _ => false) from ⟨HZ.out, HR0.out, HMAT.out, HBW.out⟩)
  have hgl := fun F : Nat → Nat => show (ints ((List.range S).map F)).length = S from by rw [ints_len, List.length_map, List.length_range]
  have HGL := hid hgl
  clear hgl HZ HR0 HMAT HBW hmk hmk2 HC1 HC2 HC3 hSS hd HW1
  go_loopw [10] (fun iv wr => ∃ i : Nat, i ≤ S ∧ iv = .int .i64 (i : Nat) ∧ Hid (ExSt w wr w.heap.size (w.heap.size + 1) q g H rs ws B ((List.range S).map fun u => if u < i then u else 0) BT (fun _ => false))) (fun iv _ => S - (intOf iv).toNat)
  case atStart => exact ⟨0, by omega, rfl, hid (HX0.out.congr (range_congr S (fun _ => 0) _ (fun u _ => by rw [if_neg (by omega)])))⟩
  case round =>
    obtain ⟨i, hi, rfl, HX⟩ := hrel
    clear HX0
    by_cases hlt : i < S
    case pos =>
      have hlt' : (i : Int) < (S : Int) := by omega
      obtain ⟨cv, hcv⟩ := HX.out.amap.has i (by rw [HGL.out]; exact hlt)
      have fz := HX.out.amap.frozen i
      have HX2 := hid (HX.out.place HSEP.out i i)
      rw [range_set S i i _ hlt] at HX2
      have HX3 := hid (HX2.out.congr (range_congr S _ (fun u => if u < i + 1 then u else 0) (fun u _ => by
            by_cases e : u = i
            · rw [if_pos e, if_pos (by omega), e]
            · rw [if_neg e]
              by_cases e2 : u < i
              · rw [if_pos e2, if_pos (by omega)]
              · rw [if_neg e2, if_neg (by omega)])))
      clear HX HX2
      go_wp2_with fail
      go_roundw
      case rel => exact ⟨i + 1, by omega, by go_num, HX3⟩
      case measure => simp [intOf]; omega
    case neg =>
    obtain rfl : i = S := by omega
    have hlt' : ¬ (i : Int) < (i : Int) := by omega
    have HX0 := hid (HX.out.congr (range_congr i _ (azPl true L) (fun u hu => by rw [if_pos hu]; rfl)))
    obtain ⟨S, hS⟩ : ∃ S, S = i := ⟨_, rfl⟩
    subst hS
    clear HX
    have HBG := hid (show GotTo true L b 0 0 0 (fun _ => false) from GotTo.zero _ _ _ _)
    obtain ⟨wo, rfl⟩ : ∃ wo : World, wo = wr := ⟨_, rfl⟩
    have HMEM := hid (show ∀ (W : World) (F : Nat → Bool) (x y : Nat), ExSt w W w.heap.size (w.heap.size + 1) q g H rs ws B ((List.range S).map (azPl true L)) BT F → x < H → y < H → Calls Tryz.prog 57 #[.pointer (some ⟨q, 0, none⟩), .int .i64 (x : Nat), .int .i64 (y : Nat)] W (fun e w' => e = .returned (.bool (B x y)) ∧ W = w') from
      fun W F x y hX hx hy => getBit q g H H rs x y ws B W hX.mat hx hy (by omega) hrs)
    go_wp2_with fail
    go_loopw [16, 17] (fun iv av wr => ∃ (i at_ : Nat) (F : Nat → Bool), i ≤ L ∧ iv = .int .i64 (i : Nat) ∧ av = .int .i64 (at_ : Nat) ∧ Hid (at_ = azRow true L i) ∧ Hid (GotTo true L b i 0 0 F) ∧ Hid (ExSt w wr w.heap.size (w.heap.size + 1) q g H rs ws B ((List.range S).map (azPl true L)) BT F)) (fun iv _ _ => L - (intOf iv).toNat)
    case atStart => exact ⟨0, 0, _, by omega, rfl, rfl, hid rfl, HBG, HX0⟩
    case round =>
      clear HX0 HBG
      obtain ⟨i, at_, F, hi, rfl, rfl, HAT, HGT, HX⟩ := hrel
      by_cases hiL : i < L
      case neg =>
        obtain rfl : i = L := by omega
        have h2' : ¬ (i : Int) < (i : Int) := by omega
        go_wp2_with fail
        go_ret
        refine ⟨_, rfl, ?_, HX.out.bl, by omega⟩
        have h1 := HGT.out.all (by rw [HLB.out, HBT.out])
        have h2 := HX.out.res
        rw [HBT.out, h1] at h2
        exact h2
      case pos =>
      have h2' : (i : Int) < (L : Int) := by omega
      obtain ⟨lg, hlg⟩ : ∃ lg, lg = azLong true L i := ⟨_, rfl⟩
      have HLG := hid hlg
      have hside := azLong_side (c := true) hiL
      rw [← hlg, ← HS.out] at hside
      have hlg3 : ((L : Int) - (i : Int)) * 4 + 9 = (lg : Nat) := by
        rw [hlg]; unfold azLong
        simp; omega
      have hlgb : lg ≤ 200 := by omega
      have hatb : at_ ≤ 20000 := by
        have h1 : azRow true L i ≤ azBitsN true L := by
          rw [← azRow_all]
          have := azRow_mono (c := true) (L := L) hiL
          omega
        rw [HAT.out]
        rw [HBT.out] at hbl
        omega
      clear hlg
      obtain ⟨lo, hlo⟩ : ∃ lo, lo = 2 * i := ⟨_, rfl⟩
      obtain ⟨hh, hhh⟩ : ∃ hh, hh = S - 1 - 2 * i := ⟨_, rfl⟩
      have k1 : (i : Int) * 2 = (lo : Nat) := by omega
      have k2 : (S : Int) - 1 - (lo : Int) = (hh : Nat) := by omega
      have hlob : lo + lg + 2 ≤ S := by omega
      have hhhb : lg + lo + 1 ≤ hh := by omega
      have hhhb2 : hh + 1 ≤ S := by omega
      have HLO := hid hlo
      have HHI := hid hhh
      clear hlo hhh
      go_wp2_with fail
      clear k1 k2 hlg3
      obtain ⟨wj, rfl⟩ : ∃ wj : World, wj = wr := ⟨_, rfl⟩
      go_loopw [21] (fun jv wr => ∃ (j : Nat) (F : Nat → Bool), j ≤ lg ∧ jv = .int .i64 (j : Nat) ∧ Hid (GotTo true L b i j 0 F) ∧ Hid (ExSt w wr w.heap.size (w.heap.size + 1) q g H rs ws B ((List.range S).map (azPl true L)) BT F)) (fun jv _ => lg - (intOf jv).toNat)
      case atStart => exact ⟨0, F, by omega, rfl, HGT, HX⟩
      case round =>
        clear HX HGT
        obtain ⟨j, F, hj, rfl, HGT, HX⟩ := hrel
        by_cases hjl : j < lg
        case neg =>
          obtain rfl : j = lg := by omega
          have hjl' : ¬ (j : Int) < (j : Int) := by omega
          have h8 : (at_ : Int) + (j : Int) * 8 = ((at_ + 8 * j : Nat) : Int) := by omega
          go_wp2_with fail
          go_roundw
          case rel => exact ⟨i + 1, at_ + 8 * j, F, by omega, by go_num, by go_num, hid (by rw [azRow, ← HAT.out, HLG.out]), hid (by have := HGT.out; rw [HLG.out] at this; exact this.row), HX⟩
          case measure => simp [intOf]; omega
        case pos =>
        have hjl' : (j : Int) < (lg : Int) := by omega
        obtain ⟨co, hco⟩ : ∃ co, co = 2 * j := ⟨_, rfl⟩
        have k3 : (j : Int) * 2 = (co : Nat) := by omega
        have hcob : co ≤ 400 := by omega
        have HCO := hid hco
        clear hco
        go_wp2_with fail
        clear k3
        obtain ⟨wn, rfl⟩ : ∃ wn : World, wn = wr := ⟨_, rfl⟩
        go_loopw [23] (fun nv wr => ∃ (n : Nat) (F : Nat → Bool), n ≤ 2 ∧ nv = .int .i64 (n : Nat) ∧ Hid (GotTo true L b i j n F) ∧ Hid (ExSt w wr w.heap.size (w.heap.size + 1) q g H rs ws B ((List.range S).map (azPl true L)) BT F)) (fun nv _ => 2 - (intOf nv).toNat)
        case atStart => exact ⟨0, F, by omega, rfl, HGT, HX⟩
        case round =>
          clear HX HGT
          obtain ⟨n, F, hn, rfl, HGT, HX⟩ := hrel
          by_cases hn2 : n < 2
          case neg =>
            obtain rfl : n = 2 := by omega
            go_wp2_with fail
            go_roundw
            case rel => exact ⟨j + 1, F, by omega, by go_num, hid HGT.out.col, HX⟩
            case measure => simp [intOf]; omega
          case pos =>
          have hn2' : (n : Int) < 2 := by omega
          have I0 := hid (show AzIn true L i 0 j n from ⟨hiL, by decide, by rw [← HLG.out]; exact hjl, hn2⟩)
          have I1 := hid (show AzIn true L i 1 j n from ⟨hiL, by decide, by rw [← HLG.out]; exact hjl, hn2⟩)
          have I2 := hid (show AzIn true L i 2 j n from ⟨hiL, by decide, by rw [← HLG.out]; exact hjl, hn2⟩)
          have I3 := hid (show AzIn true L i 3 j n from ⟨hiL, by decide, by rw [← HLG.out]; exact hjl, hn2⟩)
          have HST := hid HGT.out.step
          obtain ⟨t0, ht0⟩ : ∃ t, t = azIdx true L i 0 j n := ⟨_, rfl⟩
          obtain ⟨t1, ht1⟩ : ∃ t, t = azIdx true L i 1 j n := ⟨_, rfl⟩
          obtain ⟨t2, ht2⟩ : ∃ t, t = azIdx true L i 2 j n := ⟨_, rfl⟩
          obtain ⟨t3, ht3⟩ : ∃ t, t = azIdx true L i 3 j n := ⟨_, rfl⟩
          have q0 : t0 < BT := by rw [ht0, HBT.out]; exact azIdx_lt I0.out
          have q1 : t1 < BT := by rw [ht1, HBT.out]; exact azIdx_lt I1.out
          have q2 : t2 < BT := by rw [ht2, HBT.out]; exact azIdx_lt I2.out
          have q3 : t3 < BT := by rw [ht3, HBT.out]; exact azIdx_lt I3.out
          obtain ⟨b0, hb0⟩ : ∃ t, t = b.getD (azIdx true L i 0 j n) false := ⟨_, rfl⟩
          obtain ⟨b1, hb1⟩ : ∃ t, t = b.getD (azIdx true L i 1 j n) false := ⟨_, rfl⟩
          obtain ⟨b2, hb2⟩ : ∃ t, t = b.getD (azIdx true L i 2 j n) false := ⟨_, rfl⟩
          obtain ⟨b3, hb3⟩ : ∃ t, t = b.getD (azIdx true L i 3 j n) false := ⟨_, rfl⟩
          obtain ⟨a1, ha1⟩ : ∃ a, a = lo + n := ⟨_, rfl⟩
          obtain ⟨a2, ha2⟩ : ∃ a, a = hh - n := ⟨_, rfl⟩
          obtain ⟨a3, ha3⟩ : ∃ a, a = lo + j := ⟨_, rfl⟩
          obtain ⟨a4, ha4⟩ : ∃ a, a = hh - j := ⟨_, rfl⟩
          obtain ⟨P1, hP1⟩ : ∃ P, P = azPl true L a1 := ⟨_, rfl⟩
          obtain ⟨P2, hP2⟩ : ∃ P, P = azPl true L a2 := ⟨_, rfl⟩
          obtain ⟨P3, hP3⟩ : ∃ P, P = azPl true L a3 := ⟨_, rfl⟩
          obtain ⟨P4, hP4⟩ : ∃ P, P = azPl true L a4 := ⟨_, rfl⟩
          have X0 : B P1 P3 = b0 := by rw [hb0, ← HBB.out i 0 j n I0.out, hP1, hP3, ha1, ha3, HLO.out]; rfl
          have X1 : B P3 P2 = b1 := by rw [hb1, ← HBB.out i 1 j n I1.out, hP3, hP2, ha3, ha2, HLO.out, HHI.out, HS.out]; rfl
          have X2 : B P2 P4 = b2 := by rw [hb2, ← HBB.out i 2 j n I2.out, hP2, hP4, ha2, ha4, HHI.out, HS.out]; rfl
          have X3 : B P4 P1 = b3 := by rw [hb3, ← HBB.out i 3 j n I3.out, hP4, hP1, ha1, ha4, HLO.out, HHI.out, HS.out]; rfl
          rw [← ht0, ← ht1, ← ht2, ← ht3] at HST
          rw [← ht0] at hb0
          rw [← ht1] at hb1
          rw [← ht2] at hb2
          rw [← ht3] at hb3
          rw [← hb0, ← hb1, ← hb2, ← hb3] at HST
          unfold azIdx at ht0 ht1 ht2 ht3
          rw [← HAT.out, ← HLG.out] at ht0 ht1 ht2 ht3
          obtain ⟨⟨l1, l2, l3, l4⟩, ⟨l1', l2', l3', l4'⟩, s0, s1, s2, s3, s4, s5, s6, s7, s8, s9, s10, s11, s12, s13, z1, z2, z3, z4⟩ := exNums hatb hlgb hn2 hjl HCO.out hlob hhhb hhhb2 hS200 ha1 ha2 ha3 ha4 ht0 ht1 ht2 ht3
          have y1 : P1 < H := by rw [hP1, HH.out]; exact azPl_lt (by rw [← HS.out]; exact l1)
          have y2 : P2 < H := by rw [hP2, HH.out]; exact azPl_lt (by rw [← HS.out]; exact l2)
          have y3 : P3 < H := by rw [hP3, HH.out]; exact azPl_lt (by rw [← HS.out]; exact l3)
          have y4 : P4 < H := by rw [hP4, HH.out]; exact azPl_lt (by rw [← HS.out]; exact l4)
          have q0' : (t0 : Int) < (BT : Int) := Int.ofNat_lt.2 q0
          have q1' : (t1 : Int) < (BT : Int) := Int.ofNat_lt.2 q1
          have q2' : (t2 : Int) < (BT : Int) := Int.ofNat_lt.2 q2
          have q3' : (t3 : Int) < (BT : Int) := Int.ofNat_lt.2 q3
          have HPC := hid (show ∀ (W : World) (F : Nat → Bool), ExSt w W w.heap.size (w.heap.size + 1) q g H rs ws B ((List.range S).map (azPl true L)) BT F →
              (W.cell? ⟨w.heap.size, a1, none⟩ = some (.int .i64 (P1 : Nat)) ∧ W.cell? ⟨w.heap.size, a2, none⟩ = some (.int .i64 (P2 : Nat)) ∧ W.cell? ⟨w.heap.size, a3, none⟩ = some (.int .i64 (P3 : Nat)) ∧ W.cell? ⟨w.heap.size, a4, none⟩ = some (.int .i64 (P4 : Nat))) ∧
              (∀ t, t < BT → ∃ v, W.cell? ⟨w.heap.size + 1, t, none⟩ = some v) ∧ ∀ t, W.frozen? ⟨w.heap.size + 1, t, none⟩ = false from fun W F hX => by
            have pc2 := fun u (hu : u < S) => show W.cell? ⟨w.heap.size, u, none⟩ = some (.int .i64 (azPl true L u : Nat)) from by rw [hX.amap.cell u (by rw [HGL.out]; exact hu)]; simp [ints]
            exact ⟨⟨by rw [pc2 a1 l1, hP1], by rw [pc2 a2 l2, hP2], by rw [pc2 a3 l3, hP3], by rw [pc2 a4 l4, hP4]⟩, fun t ht => hX.res.has t (by simpa using ht), fun t => hX.res.frozen t⟩)
          obtain ⟨⟨c1, c2, c3, c4⟩, hcs, hfz⟩ := HPC.out wr F HX.out
          obtain ⟨v0, hv0⟩ := hcs t0 q0
          have fz0 := hfz t0
          have hm := HMEM.out wr.drew F P1 P3 HX.out.drew y1 y3
          rw [X0] at hm
          have HM0 := hid hm
          clear hcs hfz hm ht0 ht1 ht2 ht3 hb0 hb1 hb2 hb3 hP1 hP2 hP3 hP4 ha1 ha2 ha3 ha4 HGT I0 I1 I2 I3
          go_wp2_with fail
          apply dedup
          · intro hP
            go_region_with ((go_at_call 57; ((with_reducible refine HM0.out.mono ?_); rintro e w5 ⟨rfl, rfl⟩)))
            all_goals exact hP.out
          have HX1 := hid (HX.out.store HSEP.out t0 b0).drew
          generalize (wr.setCell ⟨w.heap.size + 1, t0, none⟩ (.bool b0)).drew = w3 at *
          clear HM0 c1 c2 c3 c4 v0 hv0 fz0 HX
          obtain ⟨⟨c1, c2, c3, c4⟩, hcs, hfz⟩ := HPC.out w3 _ HX1.out
          obtain ⟨v0, hv0⟩ := hcs t1 q1
          have fz0 := hfz t1
          have hm := HMEM.out w3.drew _ P3 P2 HX1.out.drew y3 y2
          rw [X1] at hm
          have HM1 := hid hm
          clear hcs hfz hm
          go_wp2_with fail
          apply dedup
          · intro hP
            go_region_with ((go_at_call 57; ((with_reducible refine HM1.out.mono ?_); rintro e w5 ⟨rfl, rfl⟩)))
            all_goals exact hP.out
          have HX2 := hid (HX1.out.store HSEP.out t1 b1).drew
          generalize (w3.setCell ⟨w.heap.size + 1, t1, none⟩ (.bool b1)).drew = w4 at *
          clear HM1 c1 c2 c3 c4 v0 hv0 fz0 HX1
          obtain ⟨⟨c1, c2, c3, c4⟩, hcs, hfz⟩ := HPC.out w4 _ HX2.out
          obtain ⟨v0, hv0⟩ := hcs t2 q2
          have fz0 := hfz t2
          have hm := HMEM.out w4.drew _ P2 P4 HX2.out.drew y2 y4
          rw [X2] at hm
          have HM2 := hid hm
          clear hcs hfz hm
          go_wp2_with fail
          apply dedup
          · intro hP
            go_region_with ((go_at_call 57; ((with_reducible refine HM2.out.mono ?_); rintro e w5 ⟨rfl, rfl⟩)))
            all_goals exact hP.out
          have HX3 := hid (HX2.out.store HSEP.out t2 b2).drew
          generalize (w4.setCell ⟨w.heap.size + 1, t2, none⟩ (.bool b2)).drew = w6 at *
          clear HM2 c1 c2 c3 c4 v0 hv0 fz0 HX2
          obtain ⟨⟨c1, c2, c3, c4⟩, hcs, hfz⟩ := HPC.out w6 _ HX3.out
          obtain ⟨v0, hv0⟩ := hcs t3 q3
          have fz0 := hfz t3
          have hm := HMEM.out w6.drew _ P4 P1 HX3.out.drew y4 y1
          rw [X3] at hm
          have HM3 := hid hm
          clear hcs hfz hm
          go_wp2_with fail
          apply dedup
          · intro hP
            go_region_with ((go_at_call 57; ((with_reducible refine HM3.out.mono ?_); rintro e w5 ⟨rfl, rfl⟩)))
            all_goals exact hP.out
          have HX4 := hid (HX3.out.store HSEP.out t3 b3).drew
          generalize (w6.setCell ⟨w.heap.size + 1, t3, none⟩ (.bool b3)).drew = w7 at *
          clear HM3 c1 c2 c3 c4 v0 hv0 fz0 HX3
          go_wp2_with fail
          go_roundw
          case rel => exact ⟨n + 1, _, by omega, by go_num, HST, HX4⟩
          case measure => simp [intOf]; omega
end Go.Proofs.YtliephokeafllaaGreatDoor
