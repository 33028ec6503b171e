/- spec.AZLay. -/
import Derived.Test.YtliephokeafllaaGreatDoorAzI
namespace Go.Proofs.YtliephokeafllaaGreatDoor
open Go.RowKit
set_option linter.unusedVariables false
set_option linter.unusedSimpArgs false

def LayN (c : Bool) (L H T : Nat) (b : List Bool) (w : World) (e : Ending) (w' : World) : Prop :=
  ∃ G gs X, e = .returned (.slice (some ⟨G, 0, none⟩) H H) ∧ RowsUp w' G 23 4 H H gs (brow X H) ∧ LaidTo c L b T X ∧ Below w.heap.size w w' ∧ w.heap.size ≤ G

set_option maxRecDepth 100000 in
set_option maxHeartbeats 16000000 in
theorem layF (L : Nat) (hL0 : 1 ≤ L) (hL : L ≤ 32) (ws : List Nat) (A : Option Addr) (cp : Nat) (w : World) (hR : Rd w A ws.length (ints ws)) (hlt : ∀ x ∈ ws, x < 4096) (hlen : ws.length = azBitsN false L / azW L) :
    Calls Tryz.prog 6 #[.slice A ws.length cp, .bool false, .int .i64 (L : Nat)] w (LayOut false L (layBits (azBitsN false L % azW L) (azW L) ws) w) := by
  obtain ⟨i4, hi4, hb0, hb1, hb2⟩ := info_of info4
  obtain ⟨N, hN⟩ : ∃ N, N = ws.length := ⟨_, rfl⟩
  have HN := hid hN
  rw [← hN] at hR hlen ⊢
  have HPL := hid (placesM false L hL0 hL w)
  have hWD := hid (fun W => azWidthM L W)
  have hBT := hid (fun W => azBitsM false L hL W)
  have hbl := azBitsN_le false hL
  have hw := azW_cases L
  obtain ⟨S, hS⟩ : ∃ S, S = azSide false L := ⟨_, rfl⟩
  obtain ⟨H, hH⟩ : ∃ H, H = azWhole false L := ⟨_, rfl⟩
  have HS := hid hS
  have HH := hid hH
  have hS200 : S ≤ 200 := by rw [hS]; unfold azSide; split <;> omega
  have hH200 : H ≤ 200 := by rw [hH]; unfold azWhole azHalf; split <;> omega
  have hH1 : 1 ≤ H := by rw [hH]; unfold azWhole azHalf; split <;> omega
  change Calls _ _ _ _ (LayN false L (azWhole false L) (azBitsN false L) _ _)
  rw [← hH]
  obtain ⟨WD, hWDe⟩ : ∃ WD, WD = azW L := ⟨_, rfl⟩
  rw [← hWDe] at hWD hw hlen ⊢
  have hw12 : WD ≤ 12 := by omega
  have hw6 : 6 ≤ WD := by omega
  obtain ⟨BT, hBTe⟩ : ∃ BT, BT = azBitsN false L := ⟨_, rfl⟩
  rw [← hBTe] at hBT hbl hlen ⊢
  have HBT := hid hBTe
  have hN4 : N ≤ 4000 := by rw [hlen]; exact Nat.le_trans (Nat.div_le_div_left hw6 (by decide)) (by omega)
  obtain ⟨r, hr⟩ : ∃ r, r = BT % WD := ⟨_, rfl⟩
  have hrl : r < 12 := by have := Nat.mod_lt BT (show 0 < WD by omega); omega
  have er : (BT : Int) % (WD : Int) = (r : Nat) := by omega
  have HBL := hid (show (layBits r WD ws).length = BT by
    rw [layBits_len, ← hN, hlen, hr]
    have := Nat.div_add_mod BT WD
    omega)
  rw [← hr]
  obtain ⟨bs, hbs⟩ : ∃ bs, bs = layBits r WD ws := ⟨_, rfl⟩
  rw [← hbs] at HBL ⊢
  have HBS := hid hbs
  clear hbs
  have hmk := fun W => run_make (P := Tryz.prog) W 23 4 i4 (.bool false) Tryz.underlying23 hi4 hb0 .i64 .i64 (r : Int) (r : Int) (by omega) (by omega) (by rw [hb2]; omega) (by omega)
  simp only [hb1] at hmk
  have hz : ¬ (WD : Int) = 0 := by omega
  have HR := hid hR
  have HLT := hid hlt
  unfold PlacesOut at HPL
  rw [← hS, ← hH] at HPL
  clear hN hR hlt hWDe hBTe hr hw hS hH hlen
  go_enter Tryz.func6, Tryz.ntmps6
  go_wp2_with fail
  refine HPL.out.mono ?_
  rintro e w1 ⟨gp, rfl, hA1, hB1, hgp⟩
  have HP1 := hid hA1
  have HB1 := hid hB1
  have HRN := hid (rowsNil H H w1 hH1 hH200 hH200)
  clear hA1 hB1 HPL
  go_wp2_with fail
  refine HRN.out.mono ?_
  rintro e w2 ⟨gs, rfl, hU2, hB2⟩
  have HU2 := hid hU2
  have HB2 := hid hB2
  have hgp1 := HP1.out.lt
  have hG2 := HU2.out.top.lt
  have hz1 := HB1.out.size
  have hz2 := HB2.out.size
  clear hU2 hB2 HRN
  have HSEP := hid (show ∀ q bb, w2.heap.size ≤ q → w2.heap.size ≤ bb → LaySep w.heap.size gp w1.heap.size q bb H gs from fun q bb hq hbb =>
    ⟨hgp1, fun r hr => (HU2.out.row r hr).2, fun r hr => Nat.lt_of_lt_of_le (HU2.out.row r hr).1.lt hq, fun r hr => Nat.lt_of_lt_of_le (HU2.out.row r hr).1.lt hbb, hgp⟩)
  have HP2 := hid (HP1.out.below HB2.out hgp1)
  have HBW2 := hid (HB1.out.trans (HB2.out.mono hz1))
  have HA0 := hid (show IsAz ((w2.alloc (.cells (madeCells #[.bool false] r) 4)).alloc (.cells #[.slice (some ⟨w2.heap.size, 0, none⟩) r r, .string ⟨#[]⟩, .int .i64 0] 50)) (w2.alloc (.cells (madeCells #[.bool false] r) 4)).heap.size w2.heap.size (.slice (some ⟨w2.heap.size, 0, none⟩) r r) ⟨layBits r WD [], [], 0⟩ from
    ⟨Arr.of_new _ 50 #[.slice (some ⟨w2.heap.size, 0, none⟩) r r, .string ⟨#[]⟩, .int .i64 0], by
      have := (Own.made (w := w2) (B := w2.heap.size) r (Nat.le_refl _) (by omega)).alloc (.cells #[.slice (some ⟨w2.heap.size, 0, none⟩) r r, .string ⟨#[]⟩, .int .i64 0] 50)
      simpa [layBits] using this, by simp [Value.ownBlock], by simp⟩)
  have HB0 := hid (show Below w2.heap.size w2 ((w2.alloc (.cells (madeCells #[.bool false] r) 4)).alloc (.cells #[.slice (some ⟨w2.heap.size, 0, none⟩) r r, .string ⟨#[]⟩, .int .i64 0] 50)) from ((Below.refl _ _).alloc (Nat.le_refl _) _).alloc (by simp) _)
  have hq9 : (w2.alloc (.cells (madeCells #[.bool false] r) 4)).heap.size = w2.heap.size + 1 := by simp
  rw [hq9] at HA0
  clear hq9 HP1 HB1
  go_wp2_with (first | (go_at_call 7; ((with_reducible refine (hWD.out _).mono ?_); rintro e w' ⟨rfl, rfl⟩)) | (go_at_call 15; ((with_reducible refine (hBT.out _).mono ?_); rintro e w' ⟨rfl, rfl⟩)))
  generalize (w2.alloc (.cells (madeCells #[.bool false] r) 4)).alloc (.cells #[.slice (some ⟨w2.heap.size, 0, none⟩) r r, .string ⟨#[]⟩, .int .i64 0] 50) = w3 at *
  clear hmk er hz hWD hBT
  go_loopw [14] (fun iv wr => ∃ (i : Nat) (v : Value), i ≤ N ∧ iv = .int .i64 (i : Nat) ∧ Hid (IsAz wr (w2.heap.size + 1) w2.heap.size v ⟨layBits r WD (ws.take i), [], 0⟩) ∧ Hid (Below w2.heap.size w2 wr)) (fun iv _ => N - (intOf iv).toNat)
  case atStart => exact ⟨0, _, by omega, rfl, HA0, HB0⟩
  case round =>
    clear HA0 HB0
    obtain ⟨i, v, hi, rfl, HA, HB⟩ := hrel
    by_cases h1 : i < N
    case pos =>
      have h1' : (i : Int) < (N : Int) := by omega
      have hi' : i < ws.length := by rw [← HN.out]; exact h1
      obtain ⟨gb, go, rfl, hgb, hcell⟩ := HR.out.2 (by omega)
      have ci := (World.cell?_of_block (w := w2) (HB.out.block gb (by omega))).trans ((World.cell?_of_block (w := w) (HBW2.out.block gb hgb)).trans (hcell i (by rw [ints_len]; exact hi')))
      rw [ints_get ws i hi'] at ci
      have HNX := hid (layBits_next r WD ws i hi')
      have hxl := HLT.out _ (List.getElem_mem hi')
      rw [List.getD, List.getElem?_eq_getElem hi', Option.getD_some] at HNX
      generalize ws[i] = x at *
      have hbl2 : (layBits r WD (ws.take i)).length ≤ 100000 := by
        rw [layBits_len, List.length_take]
        have : WD * min i ws.length ≤ 12 * 4000 := Nat.mul_le_mul hw12 (by omega)
        omega
      have HP := hid (putM wr (w2.heap.size + 1) w2.heap.size v ⟨layBits r WD (ws.take i), [], 0⟩ x WD (by omega) hxl HA.out (by show (layBits r WD (ws.take i)).length ≤ _; omega))
      clear hcell hi' HA
      go_wp2_with fail
      refine HP.out.mono ?_
      rintro e w5 ⟨rfl, v2, hA2, hB2, hF2⟩
      have HA2 := hid hA2
      have HB9 := hid (HB.out.trans hB2)
      clear hA2 hB2 hF2 HB HP
      go_wp2_with fail
      go_roundw
      case rel => exact ⟨i + 1, v2, by omega, by go_num, hid (by rw [HNX.out]; exact HA2.out), HB9⟩
      case measure => simp [intOf]; omega
    case neg =>
    obtain rfl : i = N := by omega
    have h1' : ¬ (i : Int) < (i : Int) := by omega
    have hA := HA.out
    rw [HN.out, List.take_length, ← HBS.out] at hA
    obtain ⟨Ab, cb, hv, hRb, _⟩ := hA.form
    simp only at hv hRb
    have hlb := HBL.out
    have hbt0 : 0 < BT := by rw [HBT.out]; unfold azBitsN; split <;> exact Nat.mul_pos (by omega) (by omega)
    obtain ⟨bb, ob, rfl, hbb, hcb⟩ := hRb.2 (by omega)
    rw [hlb] at hv
    have hbb2 : w2.heap.size ≤ bb := (hA.own.lt bb (by rw [hv]; rfl)).1
    have HSP := hid (HSEP.out (w2.heap.size + 1) bb (by omega) hbb2)
    have HST := hid (show LaySt w wr gp w1.heap.size (w2.heap.size + 1) bb ob H gs ((List.range S).map (azPl false L)) v bs false L 0 noB from
      ⟨HU2.out.below HB.out (by omega) (fun r hr => (HU2.out.row r hr).1.lt), LaidTo.zero _ _ _ _, HP2.out.below HB.out (by omega), hA.cells, fun k hk => by
        rw [hcb k (by rw [List.length_map]; exact hk), List.getElem_map, List.getD, List.getElem?_eq_getElem hk]
        rfl, HBW2.out.trans (HB.out.mono (by omega))⟩)
    subst hv
    clear hA hRb hcb HA HB HU2 HP2 HBW2 HB2 HSEP HR HLT HBS
    obtain ⟨wo, rfl⟩ : ∃ wo : World, wo = wr := ⟨_, rfl⟩
    have hH2 : ∀ r, r < H → True := fun _ _ => trivial
    clear hH2
    go_wp2_with fail
    go_loopw [15, 16] (fun av iv wr => ∃ (i at_ : Nat) (X : Nat → Nat → Bool), i ≤ L ∧ iv = .int .i64 (i : Nat) ∧ av = .int .i64 (at_ : Nat) ∧ Hid (at_ = azRow false L i) ∧ Hid (LaySt w wr gp w1.heap.size (w2.heap.size + 1) bb ob H gs ((List.range S).map (azPl false L)) (.slice (some ⟨bb, ob, none⟩) BT cb) bs false L at_ X)) (fun _ iv _ => L - (intOf iv).toNat)
    case atStart => exact ⟨0, 0, noB, by omega, rfl, rfl, hid rfl, HST⟩
    case round =>
      clear HST
      obtain ⟨i, at_, X, hi, rfl, rfl, HAT, HST⟩ := hrel
      by_cases hiL : i < L
      case neg =>
        obtain rfl : i = L := by omega
        have h2' : ¬ (i : Int) < (i : Int) := by omega
        go_wp2_with fail
        go_ret
        refine ⟨_, gs, X, rfl, HST.out.up, ?_, HST.out.bl, hz1⟩
        have := HST.out.laid
        rwa [HAT.out, azRow_all, ← HBT.out] at this
      case pos =>
      have h2' : (i : Int) < (L : Int) := by omega
      obtain ⟨lg, hlg⟩ : ∃ lg, lg = azLong false L i := ⟨_, rfl⟩
      have HLG := hid hlg
      have hside := azLong_side (c := false) hiL
      rw [← hlg, ← HS.out] at hside
      have hlg3 : 4 * ((L : Int) - (i : Int)) + 12 = (lg : Nat) := by
        rw [hlg]; unfold azLong
        simp; omega
      have hlgb : lg ≤ 200 := by omega
      clear hlg
      go_wp2_with fail
      clear hlg3
      obtain ⟨wk, rfl⟩ : ∃ wk : World, wk = wr := ⟨_, rfl⟩
      go_loopw [15, 18] (fun av kv wr => ∃ (k at_ : Nat) (X : Nat → Nat → Bool), k ≤ 4 ∧ kv = .int .i64 (k : Nat) ∧ av = .int .i64 (at_ : Nat) ∧ Hid (at_ = azRow false L i + 2 * azLong false L i * k) ∧ Hid (LaySt w wr gp w1.heap.size (w2.heap.size + 1) bb ob H gs ((List.range S).map (azPl false L)) (.slice (some ⟨bb, ob, none⟩) BT cb) bs false L at_ X)) (fun _ kv _ => 4 - (intOf kv).toNat)
      case atStart => exact ⟨0, at_, X, by omega, rfl, rfl, hid (by rw [HAT.out]; simp), HST⟩
      case round =>
        clear HST HAT
        obtain ⟨k, at_, X, hk, rfl, rfl, HAT, HST⟩ := hrel
        by_cases hk4 : k < 4
        case neg =>
          obtain rfl : k = 4 := by omega
          go_wp2_with fail
          go_roundw
          case rel => exact ⟨i + 1, at_, X, by omega, by go_num, rfl, hid (by rw [HAT.out, azRow, ← HLG.out]; omega), HST⟩
          case measure => simp [intOf]; omega
        case pos =>
        have hk4' : (k : Int) < 4 := by omega
        go_wp2_with fail
        obtain ⟨wj, rfl⟩ : ∃ wj : World, wj = wr := ⟨_, rfl⟩
        go_loopw [15, 19] (fun av jv wr => ∃ (j at_ : Nat) (X : Nat → Nat → Bool), j ≤ lg ∧ jv = .int .i64 (j : Nat) ∧ av = .int .i64 (at_ : Nat) ∧ Hid (at_ = azRow false L i + 2 * azLong false L i * k + 2 * j) ∧ Hid (LaySt w wr gp w1.heap.size (w2.heap.size + 1) bb ob H gs ((List.range S).map (azPl false L)) (.slice (some ⟨bb, ob, none⟩) BT cb) bs false L at_ X)) (fun _ jv _ => lg - (intOf jv).toNat)
        case atStart => exact ⟨0, at_, X, by omega, rfl, rfl, hid (by rw [HAT.out]; simp), HST⟩
        case round =>
          clear HST HAT
          obtain ⟨j, at_, X, hj, rfl, rfl, HAT, HST⟩ := hrel
          by_cases hjl : j < lg
          case neg =>
            obtain rfl : j = lg := by omega
            have hjl' : ¬ (j : Int) < (j : Int) := by omega
            go_wp2_with fail
            go_roundw
            case rel => exact ⟨k + 1, at_, X, by omega, by go_num, rfl, hid (by rw [HAT.out, HLG.out, Nat.mul_add, Nat.mul_one]; omega), HST⟩
            case measure => simp [intOf]; omega
          case pos =>
          have hjl' : (j : Int) < (lg : Int) := by omega
          go_wp2_with fail
          obtain ⟨wn, rfl⟩ : ∃ wn : World, wn = wr := ⟨_, rfl⟩
          go_loopw [15, 20] (fun av nv wr => ∃ (n at_ : Nat) (X : Nat → Nat → Bool), n ≤ 2 ∧ nv = .int .i64 (n : Nat) ∧ av = .int .i64 (at_ : Nat) ∧ Hid (at_ = azIdx false L i k j n) ∧ Hid (LaySt w wr gp w1.heap.size (w2.heap.size + 1) bb ob H gs ((List.range S).map (azPl false L)) (.slice (some ⟨bb, ob, none⟩) BT cb) bs false L at_ X)) (fun _ nv _ => 2 - (intOf nv).toNat)
          case atStart => exact ⟨0, at_, X, by omega, rfl, rfl, hid (by rw [HAT.out]; rfl), HST⟩
          case round =>
            clear HST HAT
            obtain ⟨n, at_, X, hn, rfl, rfl, HAT, HST⟩ := hrel
            by_cases hn2 : n < 2
            case neg =>
              obtain rfl : n = 2 := by omega
              go_wp2_with fail
              go_roundw
              case rel => exact ⟨j + 1, at_, X, by omega, by go_num, rfl, hid (by rw [HAT.out, azIdx]; omega), HST⟩
              case measure => simp [intOf]; omega
            case pos =>
            have hn2' : (n : Int) < 2 := by omega
            have HIN := hid (show AzIn false L i k j n from ⟨hiL, hk4, by rw [← HLG.out]; exact hjl, hn2⟩)
            obtain ⟨a1, ha1⟩ : ∃ a, a = 2 * i + n := ⟨_, rfl⟩
            obtain ⟨a2, ha2⟩ : ∃ a, a = S - 1 - 2 * i - n := ⟨_, rfl⟩
            obtain ⟨a3, ha3⟩ : ∃ a, a = 2 * i + j := ⟨_, rfl⟩
            obtain ⟨a4, ha4⟩ : ∃ a, a = S - 1 - 2 * i - j := ⟨_, rfl⟩
            have g1 : IntKind.i64.wrap (2 * (i : Int)) = 2 * (i : Int) := IntWalk.i64_in _ (by omega)
            have g2 : IntKind.i64.wrap (2 * (i : Int) + (n : Int)) = (a1 : Nat) := by rw [ha1]; rw [IntWalk.i64_in _ (by omega)]; omega
            have g3 : IntKind.i64.wrap ((S : Int) - 1) = (S : Int) - 1 := IntWalk.i64_in _ (by omega)
            have g4 : IntKind.i64.wrap ((S : Int) - 1 - 2 * (i : Int)) = (S : Int) - 1 - 2 * (i : Int) := IntWalk.i64_in _ (by omega)
            have g5 : IntKind.i64.wrap ((S : Int) - 1 - 2 * (i : Int) - (n : Int)) = (a2 : Nat) := by rw [ha2]; rw [IntWalk.i64_in _ (by omega)]; omega
            have g6 : IntKind.i64.wrap (2 * (i : Int) + (j : Int)) = (a3 : Nat) := by rw [ha3]; rw [IntWalk.i64_in _ (by omega)]; omega
            have g7 : IntKind.i64.wrap ((S : Int) - 1 - 2 * (i : Int) - (j : Int)) = (a4 : Nat) := by rw [ha4]; rw [IntWalk.i64_in _ (by omega)]; omega
            have l1 : a1 < S := by omega
            have l2 : a2 < S := by omega
            have l3 : a3 < S := by omega
            have l4 : a4 < S := by omega
            have pc := fun u (hu : u < S) => HST.out.pls.cell u (by rw [ints_len, List.length_map, List.length_range]; exact hu)
            have pc2 := fun u (hu : u < S) => show wr.cell? ⟨gp, u, none⟩ = some (.int .i64 (azPl false L u : Nat)) from by rw [pc u hu]; simp [ints]
            have p1 := pc2 a1 l1
            have p2 := pc2 a2 l2
            have p3 := pc2 a3 l3
            have p4 := pc2 a4 l4
            clear pc pc2
            have l1' : (a1 : Int) < (S : Int) := by omega
            have l2' : (a2 : Int) < (S : Int) := by omega
            have l3' : (a3 : Int) < (S : Int) := by omega
            have l4' : (a4 : Int) < (S : Int) := by omega
            have HA1 := hid ha1
            have HA2 := hid ha2
            have HA3 := hid ha3
            have HA4 := hid ha4
            clear ha1 ha2 ha3 ha4
            obtain ⟨P1, hP1⟩ : ∃ P, P = azPl false L a1 := ⟨_, rfl⟩
            obtain ⟨P2, hP2⟩ : ∃ P, P = azPl false L a2 := ⟨_, rfl⟩
            obtain ⟨P3, hP3⟩ : ∃ P, P = azPl false L a3 := ⟨_, rfl⟩
            obtain ⟨P4, hP4⟩ : ∃ P, P = azPl false L a4 := ⟨_, rfl⟩
            rw [← hP1] at p1
            rw [← hP2] at p2
            rw [← hP3] at p3
            rw [← hP4] at p4
            have HP1 := hid hP1
            have HP2 := hid hP2
            have HP3 := hid hP3
            have HP4 := hid hP4
            clear hP1 hP2 hP3 hP4
            go_wp2_with fail
            go_quiet (fail)
            go_wp2_with fail
            go_quiet (fail)
            have hat : at_ < BT := by rw [HAT.out, HBT.out]; exact azIdx_lt HIN.out
            have hat' : (at_ : Int) < (BT : Int) := by omega
            have cw0 := HST.out.wrt.cell 0 (by simp)
            simp only [List.getElem_cons_zero] at cw0
            have cbit := HST.out.bits at_ (by rw [HBL.out]; exact hat)
            have hpy : azY false L i k j n < H := by rw [HH.out]; exact azPl_lt (azV_lt HIN.out)
            have hpx : azX false L i k j n < H := by rw [HH.out]; exact azPl_lt (azU_lt HIN.out)
            have ctop := HST.out.up.top.cell (azY false L i k j n) (by simp; omega)
            rw [List.getElem_append_left (by simp; exact hpy)] at ctop
            simp only [List.getElem_map, List.getElem_range, brow_len] at ctop
            obtain ⟨cv, hcv⟩ := (HST.out.up.row _ hpy).1.has (azX false L i k j n) (by rw [brow_len]; exact hpx)
            have fz := (HST.out.up.row _ hpy).1.frozen (azX false L i k j n)
            have HSTEP := hid (fun m => LaySt.step (by have := HST.out.drewN m; rw [HAT.out] at this; exact this) HSP.out HIN.out HH.out)
            obtain ⟨bv, hbv⟩ : ∃ bv, bv = bs.getD at_ false := ⟨_, rfl⟩
            rw [← HAT.out, ← hbv] at HSTEP
            rw [← hbv] at cbit
            have hpy' : ((azY false L i k j n : Nat) : Int) < (H : Int) := by omega
            have hpx' : ((azX false L i k j n : Nat) : Int) < (H : Int) := by omega
            have HNXT := hid (show at_ + 1 = azIdx false L i k j (n + 1) by rw [HAT.out]; rfl)
            have hkc : k = 0 ∨ k = 1 ∨ k = 2 ∨ k = 3 := by omega
            have hXY : (k = 0 → azX false L i k j n = P1 ∧ azY false L i k j n = P3) ∧ (k = 1 → azX false L i k j n = P3 ∧ azY false L i k j n = P2) ∧ (k = 2 → azX false L i k j n = P2 ∧ azY false L i k j n = P4) ∧ (k = 3 → azX false L i k j n = P4 ∧ azY false L i k j n = P1) := by
              rw [HP1.out, HP2.out, HP3.out, HP4.out, HA1.out, HA2.out, HA3.out, HA4.out, HS.out]
              refine ⟨?_, ?_, ?_, ?_⟩ <;> (intro h; subst h; exact ⟨rfl, rfl⟩)
            generalize azX false L i k j n = x at *
            generalize azY false L i k j n = y at *
            clear hbv HST HAT HIN p1 p2 p3 p4 g1 g2 g3 g4 g5 g6 g7 hpy hpx
            rcases hkc with hk0 | hk0 | hk0 | hk0
            · obtain ⟨hx, hy⟩ := hXY.1 hk0
              subst hx hy
              have hk0' : (k : Int) = 0 := by omega
              clear hXY
              go_wp2_with fail
              go_region
              all_goals (
                go_wp2_with fail
                go_roundw
                case rel => exact ⟨n + 1, at_ + 1, _, by omega, by go_num, by go_num, HNXT, hid (HSTEP.out _)⟩
                case measure => simp [intOf]; omega)
            · obtain ⟨hx, hy⟩ := hXY.2.1 hk0
              subst hx hy
              have hk0' : (k : Int) = 1 := by omega
              clear hXY
              go_wp2_with fail
              go_region
              all_goals (
                go_wp2_with fail
                go_roundw
                case rel => exact ⟨n + 1, at_ + 1, _, by omega, by go_num, by go_num, HNXT, hid (HSTEP.out _)⟩
                case measure => simp [intOf]; omega)
            · obtain ⟨hx, hy⟩ := hXY.2.2.1 hk0
              subst hx hy
              have hk0' : (k : Int) = 2 := by omega
              clear hXY
              go_wp2_with fail
              go_region
              all_goals (
                go_wp2_with fail
                go_roundw
                case rel => exact ⟨n + 1, at_ + 1, _, by omega, by go_num, by go_num, HNXT, hid (HSTEP.out _)⟩
                case measure => simp [intOf]; omega)
            · obtain ⟨hx, hy⟩ := hXY.2.2.2 hk0
              subst hx hy
              have hk0' : (k : Int) = 3 := by omega
              clear hXY
              go_wp2_with fail
              go_region
              all_goals (
                go_wp2_with fail
                go_roundw
                case rel => exact ⟨n + 1, at_ + 1, _, by omega, by go_num, by go_num, HNXT, hid (HSTEP.out _)⟩
                case measure => simp [intOf]; omega)
set_option maxRecDepth 100000 in
set_option maxHeartbeats 16000000 in
theorem layT (L : Nat) (hL0 : 1 ≤ L) (hL : L ≤ 32) (ws : List Nat) (A : Option Addr) (cp : Nat) (w : World) (hR : Rd w A ws.length (ints ws)) (hlt : ∀ x ∈ ws, x < 4096) (hlen : ws.length = azBitsN true L / azW L) :
    Calls Tryz.prog 6 #[.slice A ws.length cp, .bool true, .int .i64 (L : Nat)] w (LayOut true L (layBits (azBitsN true L % azW L) (azW L) ws) w) := by
  obtain ⟨i4, hi4, hb0, hb1, hb2⟩ := info_of info4
  obtain ⟨N, hN⟩ : ∃ N, N = ws.length := ⟨_, rfl⟩
  have HN := hid hN
  rw [← hN] at hR hlen ⊢
  have HPL := hid (placesM true L hL0 hL w)
  have hWD := hid (fun W => azWidthM L W)
  have hBT := hid (fun W => azBitsM true L hL W)
  have hbl := azBitsN_le true hL
  have hw := azW_cases L
  obtain ⟨S, hS⟩ : ∃ S, S = azSide true L := ⟨_, rfl⟩
  obtain ⟨H, hH⟩ : ∃ H, H = azWhole true L := ⟨_, rfl⟩
  have HS := hid hS
  have HH := hid hH
  have hS200 : S ≤ 200 := by rw [hS]; unfold azSide; split <;> omega
  have hH200 : H ≤ 200 := by rw [hH]; unfold azWhole azHalf; split <;> omega
  have hH1 : 1 ≤ H := by rw [hH]; unfold azWhole azHalf; split <;> omega
  change Calls _ _ _ _ (LayN true L (azWhole true L) (azBitsN true L) _ _)
  rw [← hH]
  obtain ⟨WD, hWDe⟩ : ∃ WD, WD = azW L := ⟨_, rfl⟩
  rw [← hWDe] at hWD hw hlen ⊢
  have hw12 : WD ≤ 12 := by omega
  have hw6 : 6 ≤ WD := by omega
  obtain ⟨BT, hBTe⟩ : ∃ BT, BT = azBitsN true L := ⟨_, rfl⟩
  rw [← hBTe] at hBT hbl hlen ⊢
  have HBT := hid hBTe
  have hN4 : N ≤ 4000 := by rw [hlen]; exact Nat.le_trans (Nat.div_le_div_left hw6 (by decide)) (by omega)
  obtain ⟨r, hr⟩ : ∃ r, r = BT % WD := ⟨_, rfl⟩
  have hrl : r < 12 := by have := Nat.mod_lt BT (show 0 < WD by omega); omega
  have er : (BT : Int) % (WD : Int) = (r : Nat) := by omega
  have HBL := hid (show (layBits r WD ws).length = BT by
    rw [layBits_len, ← hN, hlen, hr]
    have := Nat.div_add_mod BT WD
    omega)
  rw [← hr]
  obtain ⟨bs, hbs⟩ : ∃ bs, bs = layBits r WD ws := ⟨_, rfl⟩
  rw [← hbs] at HBL ⊢
  have HBS := hid hbs
  clear hbs
  have hmk := fun W => run_make (P := Tryz.prog) W 23 4 i4 (.bool false) Tryz.underlying23 hi4 hb0 .i64 .i64 (r : Int) (r : Int) (by omega) (by omega) (by rw [hb2]; omega) (by omega)
  simp only [hb1] at hmk
  have hz : ¬ (WD : Int) = 0 := by omega
  have HR := hid hR
  have HLT := hid hlt
  unfold PlacesOut at HPL
  rw [← hS, ← hH] at HPL
  clear hN hR hlt hWDe hBTe hr hw hS hH hlen
  go_enter Tryz.func6, Tryz.ntmps6
  go_wp2_with fail
  refine HPL.out.mono ?_
  rintro e w1 ⟨gp, rfl, hA1, hB1, hgp⟩
  have HP1 := hid hA1
  have HB1 := hid hB1
  have HRN := hid (rowsNil H H w1 hH1 hH200 hH200)
  clear hA1 hB1 HPL
  go_wp2_with fail
  refine HRN.out.mono ?_
  rintro e w2 ⟨gs, rfl, hU2, hB2⟩
  have HU2 := hid hU2
  have HB2 := hid hB2
  have hgp1 := HP1.out.lt
  have hG2 := HU2.out.top.lt
  have hz1 := HB1.out.size
  have hz2 := HB2.out.size
  clear hU2 hB2 HRN
  have HSEP := hid (show ∀ q bb, w2.heap.size ≤ q → w2.heap.size ≤ bb → LaySep w.heap.size gp w1.heap.size q bb H gs from fun q bb hq hbb =>
    ⟨hgp1, fun r hr => (HU2.out.row r hr).2, fun r hr => Nat.lt_of_lt_of_le (HU2.out.row r hr).1.lt hq, fun r hr => Nat.lt_of_lt_of_le (HU2.out.row r hr).1.lt hbb, hgp⟩)
  have HP2 := hid (HP1.out.below HB2.out hgp1)
  have HBW2 := hid (HB1.out.trans (HB2.out.mono hz1))
  have HA0 := hid (show IsAz ((w2.alloc (.cells (madeCells #[.bool false] r) 4)).alloc (.cells #[.slice (some ⟨w2.heap.size, 0, none⟩) r r, .string ⟨#[]⟩, .int .i64 0] 50)) (w2.alloc (.cells (madeCells #[.bool false] r) 4)).heap.size w2.heap.size (.slice (some ⟨w2.heap.size, 0, none⟩) r r) ⟨layBits r WD [], [], 0⟩ from
    ⟨Arr.of_new _ 50 #[.slice (some ⟨w2.heap.size, 0, none⟩) r r, .string ⟨#[]⟩, .int .i64 0], by
      have := (Own.made (w := w2) (B := w2.heap.size) r (Nat.le_refl _) (by omega)).alloc (.cells #[.slice (some ⟨w2.heap.size, 0, none⟩) r r, .string ⟨#[]⟩, .int .i64 0] 50)
      simpa [layBits] using this, by simp [Value.ownBlock], by simp⟩)
  have HB0 := hid (show Below w2.heap.size w2 ((w2.alloc (.cells (madeCells #[.bool false] r) 4)).alloc (.cells #[.slice (some ⟨w2.heap.size, 0, none⟩) r r, .string ⟨#[]⟩, .int .i64 0] 50)) from ((Below.refl _ _).alloc (Nat.le_refl _) _).alloc (by simp) _)
  have hq9 : (w2.alloc (.cells (madeCells #[.bool false] r) 4)).heap.size = w2.heap.size + 1 := by simp
  rw [hq9] at HA0
  clear hq9 HP1 HB1
  go_wp2_with (first | (go_at_call 7; ((with_reducible refine (hWD.out _).mono ?_); rintro e w' ⟨rfl, rfl⟩)) | (go_at_call 15; ((with_reducible refine (hBT.out _).mono ?_); rintro e w' ⟨rfl, rfl⟩)))
  generalize (w2.alloc (.cells (madeCells #[.bool false] r) 4)).alloc (.cells #[.slice (some ⟨w2.heap.size, 0, none⟩) r r, .string ⟨#[]⟩, .int .i64 0] 50) = w3 at *
  clear hmk er hz hWD hBT
  go_loopw [14] (fun iv wr => ∃ (i : Nat) (v : Value), i ≤ N ∧ iv = .int .i64 (i : Nat) ∧ Hid (IsAz wr (w2.heap.size + 1) w2.heap.size v ⟨layBits r WD (ws.take i), [], 0⟩) ∧ Hid (Below w2.heap.size w2 wr)) (fun iv _ => N - (intOf iv).toNat)
  case atStart => exact ⟨0, _, by omega, rfl, HA0, HB0⟩
  case round =>
    clear HA0 HB0
    obtain ⟨i, v, hi, rfl, HA, HB⟩ := hrel
    by_cases h1 : i < N
    case pos =>
      have h1' : (i : Int) < (N : Int) := by omega
      have hi' : i < ws.length := by rw [← HN.out]; exact h1
      obtain ⟨gb, go, rfl, hgb, hcell⟩ := HR.out.2 (by omega)
      have ci := (World.cell?_of_block (w := w2) (HB.out.block gb (by omega))).trans ((World.cell?_of_block (w := w) (HBW2.out.block gb hgb)).trans (hcell i (by rw [ints_len]; exact hi')))
      rw [ints_get ws i hi'] at ci
      have HNX := hid (layBits_next r WD ws i hi')
      have hxl := HLT.out _ (List.getElem_mem hi')
      rw [List.getD, List.getElem?_eq_getElem hi', Option.getD_some] at HNX
      generalize ws[i] = x at *
      have hbl2 : (layBits r WD (ws.take i)).length ≤ 100000 := by
        rw [layBits_len, List.length_take]
        have : WD * min i ws.length ≤ 12 * 4000 := Nat.mul_le_mul hw12 (by omega)
        omega
      have HP := hid (putM wr (w2.heap.size + 1) w2.heap.size v ⟨layBits r WD (ws.take i), [], 0⟩ x WD (by omega) hxl HA.out (by show (layBits r WD (ws.take i)).length ≤ _; omega))
      clear hcell hi' HA
      go_wp2_with fail
      refine HP.out.mono ?_
      rintro e w5 ⟨rfl, v2, hA2, hB2, hF2⟩
      have HA2 := hid hA2
      have HB9 := hid (HB.out.trans hB2)
      clear hA2 hB2 hF2 HB HP
      go_wp2_with fail
      go_roundw
      case rel => exact ⟨i + 1, v2, by omega, by go_num, hid (by rw [HNX.out]; exact HA2.out), HB9⟩
      case measure => simp [intOf]; omega
    case neg =>
    obtain rfl : i = N := by omega
    have h1' : ¬ (i : Int) < (i : Int) := by omega
    have hA := HA.out
    rw [HN.out, List.take_length, ← HBS.out] at hA
    obtain ⟨Ab, cb, hv, hRb, _⟩ := hA.form
    simp only at hv hRb
    have hlb := HBL.out
    have hbt0 : 0 < BT := by rw [HBT.out]; unfold azBitsN; split <;> exact Nat.mul_pos (by omega) (by omega)
    obtain ⟨bb, ob, rfl, hbb, hcb⟩ := hRb.2 (by omega)
    rw [hlb] at hv
    have hbb2 : w2.heap.size ≤ bb := (hA.own.lt bb (by rw [hv]; rfl)).1
    have HSP := hid (HSEP.out (w2.heap.size + 1) bb (by omega) hbb2)
    have HST := hid (show LaySt w wr gp w1.heap.size (w2.heap.size + 1) bb ob H gs ((List.range S).map (azPl true L)) v bs true L 0 noB from
      ⟨HU2.out.below HB.out (by omega) (fun r hr => (HU2.out.row r hr).1.lt), LaidTo.zero _ _ _ _, HP2.out.below HB.out (by omega), hA.cells, fun k hk => by
        rw [hcb k (by rw [List.length_map]; exact hk), List.getElem_map, List.getD, List.getElem?_eq_getElem hk]
        rfl, HBW2.out.trans (HB.out.mono (by omega))⟩)
    subst hv
    clear hA hRb hcb HA HB HU2 HP2 HBW2 HB2 HSEP HR HLT HBS
    obtain ⟨wo, rfl⟩ : ∃ wo : World, wo = wr := ⟨_, rfl⟩
    have hH2 : ∀ r, r < H → True := fun _ _ => trivial
    clear hH2
    go_wp2_with fail
    go_loopw [15, 16] (fun av iv wr => ∃ (i at_ : Nat) (X : Nat → Nat → Bool), i ≤ L ∧ iv = .int .i64 (i : Nat) ∧ av = .int .i64 (at_ : Nat) ∧ Hid (at_ = azRow true L i) ∧ Hid (LaySt w wr gp w1.heap.size (w2.heap.size + 1) bb ob H gs ((List.range S).map (azPl true L)) (.slice (some ⟨bb, ob, none⟩) BT cb) bs true L at_ X)) (fun _ iv _ => L - (intOf iv).toNat)
    case atStart => exact ⟨0, 0, noB, by omega, rfl, rfl, hid rfl, HST⟩
    case round =>
      clear HST
      obtain ⟨i, at_, X, hi, rfl, rfl, HAT, HST⟩ := hrel
      by_cases hiL : i < L
      case neg =>
        obtain rfl : i = L := by omega
        have h2' : ¬ (i : Int) < (i : Int) := by omega
        go_wp2_with fail
        go_ret
        refine ⟨_, gs, X, rfl, HST.out.up, ?_, HST.out.bl, hz1⟩
        have := HST.out.laid
        rwa [HAT.out, azRow_all, ← HBT.out] at this
      case pos =>
      have h2' : (i : Int) < (L : Int) := by omega
      obtain ⟨lg, hlg⟩ : ∃ lg, lg = azLong true L i := ⟨_, rfl⟩
      have HLG := hid hlg
      have hside := azLong_side (c := true) hiL
      rw [← hlg, ← HS.out] at hside
      have hlg3 : 4 * ((L : Int) - (i : Int)) + 9 = (lg : Nat) := by
        rw [hlg]; unfold azLong
        simp; omega
      have hlgb : lg ≤ 200 := by omega
      clear hlg
      go_wp2_with fail
      clear hlg3
      obtain ⟨wk, rfl⟩ : ∃ wk : World, wk = wr := ⟨_, rfl⟩
      go_loopw [15, 18] (fun av kv wr => ∃ (k at_ : Nat) (X : Nat → Nat → Bool), k ≤ 4 ∧ kv = .int .i64 (k : Nat) ∧ av = .int .i64 (at_ : Nat) ∧ Hid (at_ = azRow true L i + 2 * azLong true L i * k) ∧ Hid (LaySt w wr gp w1.heap.size (w2.heap.size + 1) bb ob H gs ((List.range S).map (azPl true L)) (.slice (some ⟨bb, ob, none⟩) BT cb) bs true L at_ X)) (fun _ kv _ => 4 - (intOf kv).toNat)
      case atStart => exact ⟨0, at_, X, by omega, rfl, rfl, hid (by rw [HAT.out]; simp), HST⟩
      case round =>
        clear HST HAT
        obtain ⟨k, at_, X, hk, rfl, rfl, HAT, HST⟩ := hrel
        by_cases hk4 : k < 4
        case neg =>
          obtain rfl : k = 4 := by omega
          go_wp2_with fail
          go_roundw
          case rel => exact ⟨i + 1, at_, X, by omega, by go_num, rfl, hid (by rw [HAT.out, azRow, ← HLG.out]; omega), HST⟩
          case measure => simp [intOf]; omega
        case pos =>
        have hk4' : (k : Int) < 4 := by omega
        go_wp2_with fail
        obtain ⟨wj, rfl⟩ : ∃ wj : World, wj = wr := ⟨_, rfl⟩
        go_loopw [15, 19] (fun av jv wr => ∃ (j at_ : Nat) (X : Nat → Nat → Bool), j ≤ lg ∧ jv = .int .i64 (j : Nat) ∧ av = .int .i64 (at_ : Nat) ∧ Hid (at_ = azRow true L i + 2 * azLong true L i * k + 2 * j) ∧ Hid (LaySt w wr gp w1.heap.size (w2.heap.size + 1) bb ob H gs ((List.range S).map (azPl true L)) (.slice (some ⟨bb, ob, none⟩) BT cb) bs true L at_ X)) (fun _ jv _ => lg - (intOf jv).toNat)
        case atStart => exact ⟨0, at_, X, by omega, rfl, rfl, hid (by rw [HAT.out]; simp), HST⟩
        case round =>
          clear HST HAT
          obtain ⟨j, at_, X, hj, rfl, rfl, HAT, HST⟩ := hrel
          by_cases hjl : j < lg
          case neg =>
            obtain rfl : j = lg := by omega
            have hjl' : ¬ (j : Int) < (j : Int) := by omega
            go_wp2_with fail
            go_roundw
            case rel => exact ⟨k + 1, at_, X, by omega, by go_num, rfl, hid (by rw [HAT.out, HLG.out, Nat.mul_add, Nat.mul_one]; omega), HST⟩
            case measure => simp [intOf]; omega
          case pos =>
          have hjl' : (j : Int) < (lg : Int) := by omega
          go_wp2_with fail
          obtain ⟨wn, rfl⟩ : ∃ wn : World, wn = wr := ⟨_, rfl⟩
          go_loopw [15, 20] (fun av nv wr => ∃ (n at_ : Nat) (X : Nat → Nat → Bool), n ≤ 2 ∧ nv = .int .i64 (n : Nat) ∧ av = .int .i64 (at_ : Nat) ∧ Hid (at_ = azIdx true L i k j n) ∧ Hid (LaySt w wr gp w1.heap.size (w2.heap.size + 1) bb ob H gs ((List.range S).map (azPl true L)) (.slice (some ⟨bb, ob, none⟩) BT cb) bs true L at_ X)) (fun _ nv _ => 2 - (intOf nv).toNat)
          case atStart => exact ⟨0, at_, X, by omega, rfl, rfl, hid (by rw [HAT.out]; rfl), HST⟩
          case round =>
            clear HST HAT
            obtain ⟨n, at_, X, hn, rfl, rfl, HAT, HST⟩ := hrel
            by_cases hn2 : n < 2
            case neg =>
              obtain rfl : n = 2 := by omega
              go_wp2_with fail
              go_roundw
              case rel => exact ⟨j + 1, at_, X, by omega, by go_num, rfl, hid (by rw [HAT.out, azIdx]; omega), HST⟩
              case measure => simp [intOf]; omega
            case pos =>
            have hn2' : (n : Int) < 2 := by omega
            have HIN := hid (show AzIn true L i k j n from ⟨hiL, hk4, by rw [← HLG.out]; exact hjl, hn2⟩)
            obtain ⟨a1, ha1⟩ : ∃ a, a = 2 * i + n := ⟨_, rfl⟩
            obtain ⟨a2, ha2⟩ : ∃ a, a = S - 1 - 2 * i - n := ⟨_, rfl⟩
            obtain ⟨a3, ha3⟩ : ∃ a, a = 2 * i + j := ⟨_, rfl⟩
            obtain ⟨a4, ha4⟩ : ∃ a, a = S - 1 - 2 * i - j := ⟨_, rfl⟩
            have g1 : IntKind.i64.wrap (2 * (i : Int)) = 2 * (i : Int) := IntWalk.i64_in _ (by omega)
            have g2 : IntKind.i64.wrap (2 * (i : Int) + (n : Int)) = (a1 : Nat) := by rw [ha1]; rw [IntWalk.i64_in _ (by omega)]; omega
            have g3 : IntKind.i64.wrap ((S : Int) - 1) = (S : Int) - 1 := IntWalk.i64_in _ (by omega)
            have g4 : IntKind.i64.wrap ((S : Int) - 1 - 2 * (i : Int)) = (S : Int) - 1 - 2 * (i : Int) := IntWalk.i64_in _ (by omega)
            have g5 : IntKind.i64.wrap ((S : Int) - 1 - 2 * (i : Int) - (n : Int)) = (a2 : Nat) := by rw [ha2]; rw [IntWalk.i64_in _ (by omega)]; omega
            have g6 : IntKind.i64.wrap (2 * (i : Int) + (j : Int)) = (a3 : Nat) := by rw [ha3]; rw [IntWalk.i64_in _ (by omega)]; omega
            have g7 : IntKind.i64.wrap ((S : Int) - 1 - 2 * (i : Int) - (j : Int)) = (a4 : Nat) := by rw [ha4]; rw [IntWalk.i64_in _ (by omega)]; omega
            have l1 : a1 < S := by omega
            have l2 : a2 < S := by omega
            have l3 : a3 < S := by omega
            have l4 : a4 < S := by omega
            have pc := fun u (hu : u < S) => HST.out.pls.cell u (by rw [ints_len, List.length_map, List.length_range]; exact hu)
            have pc2 := fun u (hu : u < S) => show wr.cell? ⟨gp, u, none⟩ = some (.int .i64 (azPl true L u : Nat)) from by rw [pc u hu]; simp [ints]
            have p1 := pc2 a1 l1
            have p2 := pc2 a2 l2
            have p3 := pc2 a3 l3
            have p4 := pc2 a4 l4
            clear pc pc2
            have l1' : (a1 : Int) < (S : Int) := by omega
            have l2' : (a2 : Int) < (S : Int) := by omega
            have l3' : (a3 : Int) < (S : Int) := by omega
            have l4' : (a4 : Int) < (S : Int) := by omega
            have HA1 := hid ha1
            have HA2 := hid ha2
            have HA3 := hid ha3
            have HA4 := hid ha4
            clear ha1 ha2 ha3 ha4
            obtain ⟨P1, hP1⟩ : ∃ P, P = azPl true L a1 := ⟨_, rfl⟩
            obtain ⟨P2, hP2⟩ : ∃ P, P = azPl true L a2 := ⟨_, rfl⟩
            obtain ⟨P3, hP3⟩ : ∃ P, P = azPl true L a3 := ⟨_, rfl⟩
            obtain ⟨P4, hP4⟩ : ∃ P, P = azPl true L a4 := ⟨_, rfl⟩
            rw [← hP1] at p1
            rw [← hP2] at p2
            rw [← hP3] at p3
            rw [← hP4] at p4
            have HP1 := hid hP1
            have HP2 := hid hP2
            have HP3 := hid hP3
            have HP4 := hid hP4
            clear hP1 hP2 hP3 hP4
            go_wp2_with fail
            go_quiet (fail)
            go_wp2_with fail
            go_quiet (fail)
            have hat : at_ < BT := by rw [HAT.out, HBT.out]; exact azIdx_lt HIN.out
            have hat' : (at_ : Int) < (BT : Int) := by omega
            have cw0 := HST.out.wrt.cell 0 (by simp)
            simp only [List.getElem_cons_zero] at cw0
            have cbit := HST.out.bits at_ (by rw [HBL.out]; exact hat)
            have hpy : azY true L i k j n < H := by rw [HH.out]; exact azPl_lt (azV_lt HIN.out)
            have hpx : azX true L i k j n < H := by rw [HH.out]; exact azPl_lt (azU_lt HIN.out)
            have ctop := HST.out.up.top.cell (azY true L i k j n) (by simp; omega)
            rw [List.getElem_append_left (by simp; exact hpy)] at ctop
            simp only [List.getElem_map, List.getElem_range, brow_len] at ctop
            obtain ⟨cv, hcv⟩ := (HST.out.up.row _ hpy).1.has (azX true L i k j n) (by rw [brow_len]; exact hpx)
            have fz := (HST.out.up.row _ hpy).1.frozen (azX true L i k j n)
            have HSTEP := hid (fun m => LaySt.step (by have := HST.out.drewN m; rw [HAT.out] at this; exact this) HSP.out HIN.out HH.out)
            obtain ⟨bv, hbv⟩ : ∃ bv, bv = bs.getD at_ false := ⟨_, rfl⟩
            rw [← HAT.out, ← hbv] at HSTEP
            rw [← hbv] at cbit
            have hpy' : ((azY true L i k j n : Nat) : Int) < (H : Int) := by omega
            have hpx' : ((azX true L i k j n : Nat) : Int) < (H : Int) := by omega
            have HNXT := hid (show at_ + 1 = azIdx true L i k j (n + 1) by rw [HAT.out]; rfl)
            have hkc : k = 0 ∨ k = 1 ∨ k = 2 ∨ k = 3 := by omega
            have hXY : (k = 0 → azX true L i k j n = P1 ∧ azY true L i k j n = P3) ∧ (k = 1 → azX true L i k j n = P3 ∧ azY true L i k j n = P2) ∧ (k = 2 → azX true L i k j n = P2 ∧ azY true L i k j n = P4) ∧ (k = 3 → azX true L i k j n = P4 ∧ azY true L i k j n = P1) := by
              rw [HP1.out, HP2.out, HP3.out, HP4.out, HA1.out, HA2.out, HA3.out, HA4.out, HS.out]
              refine ⟨?_, ?_, ?_, ?_⟩ <;> (intro h; subst h; exact ⟨rfl, rfl⟩)
            generalize azX true L i k j n = x at *
            generalize azY true L i k j n = y at *
            clear hbv HST HAT HIN p1 p2 p3 p4 g1 g2 g3 g4 g5 g6 g7 hpy hpx
            rcases hkc with hk0 | hk0 | hk0 | hk0
            · obtain ⟨hx, hy⟩ := hXY.1 hk0
              subst hx hy
              have hk0' : (k : Int) = 0 := by omega
              clear hXY
              go_wp2_with fail
              go_region
              all_goals (
                go_wp2_with fail
                go_roundw
                case rel => exact ⟨n + 1, at_ + 1, _, by omega, by go_num, by go_num, HNXT, hid (HSTEP.out _)⟩
                case measure => simp [intOf]; omega)
            · obtain ⟨hx, hy⟩ := hXY.2.1 hk0
              subst hx hy
              have hk0' : (k : Int) = 1 := by omega
              clear hXY
              go_wp2_with fail
              go_region
              all_goals (
                go_wp2_with fail
                go_roundw
                case rel => exact ⟨n + 1, at_ + 1, _, by omega, by go_num, by go_num, HNXT, hid (HSTEP.out _)⟩
                case measure => simp [intOf]; omega)
            · obtain ⟨hx, hy⟩ := hXY.2.2.1 hk0
              subst hx hy
              have hk0' : (k : Int) = 2 := by omega
              clear hXY
              go_wp2_with fail
              go_region
              all_goals (
                go_wp2_with fail
                go_roundw
                case rel => exact ⟨n + 1, at_ + 1, _, by omega, by go_num, by go_num, HNXT, hid (HSTEP.out _)⟩
                case measure => simp [intOf]; omega)
            · obtain ⟨hx, hy⟩ := hXY.2.2.2 hk0
              subst hx hy
              have hk0' : (k : Int) = 3 := by omega
              clear hXY
              go_wp2_with fail
              go_region
              all_goals (
                go_wp2_with fail
                go_roundw
                case rel => exact ⟨n + 1, at_ + 1, _, by omega, by go_num, by go_num, HNXT, hid (HSTEP.out _)⟩
                case measure => simp [intOf]; omega)
theorem layM (c : Bool) (L : Nat) (hL0 : 1 ≤ L) (hL : L ≤ 32) (ws : List Nat) (A : Option Addr) (cp : Nat) (w : World) (hR : Rd w A ws.length (ints ws)) (hlt : ∀ x ∈ ws, x < 4096) (hlen : ws.length = azBitsN c L / azW L) :
    Calls Tryz.prog 6 #[.slice A ws.length cp, .bool c, .int .i64 (L : Nat)] w (LayOut c L (layBits (azBitsN c L % azW L) (azW L) ws) w) := by
  cases c
  · exact layF L hL0 hL ws A cp w hR hlt hlen
  · exact layT L hL0 hL ws A cp w hR hlt hlen
end Go.Proofs.YtliephokeafllaaGreatDoor
