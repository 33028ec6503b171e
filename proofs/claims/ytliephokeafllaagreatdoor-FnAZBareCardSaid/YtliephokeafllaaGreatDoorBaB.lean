/- decoder.Decode on the modules of a symbol. -/
import Derived.Test.YtliephokeafllaaGreatDoorAzX
import Derived.Test.YtliephokeafllaaGreatDoorAzY
import Derived.Test.YtliephokeafllaaGreatDoorAzZ
import Derived.Test.YtliephokeafllaaGreatDoorAzO
namespace Go.Proofs.YtliephokeafllaaGreatDoor
open Go.RowKit
set_option linter.unusedVariables false
set_option linter.unusedSimpArgs false

theorem al_fin : (List.range 33).all (fun L => [true, false].all fun c => decide (azBitsN c L / azW L ≤ 2000 ∧ azBitsN c L / azW L < 2 ^ azW L)) = true := by decide +kernel
theorem al_facts (c : Bool) {L : Nat} (hL : L ≤ 32) : azBitsN c L / azW L ≤ 2000 ∧ azBitsN c L / azW L < 2 ^ azW L := by
  have h1 := List.all_eq_true.1 al_fin L (List.mem_range.2 (by omega))
  have h2 := List.all_eq_true.1 h1 c (by cases c <;> simp)
  exact of_decide_eq_true h2
theorem getBitsM (de : Nat) (p s : Value) (w : World) (hA : Arr w de 109 [p, s]) (hp : ∃ a, p = .pointer a) : Calls Tryz.prog 38 #[.pointer (some ⟨de, 0, none⟩)] w fun e w' => e = .returned p ∧ w = w' := by
  obtain ⟨a, rfl⟩ := hp
  have c0 := hA.cell? 0
  simp only [List.getElem?_cons_zero] at c0
  clear hA
  go_enter Tryz.func38, Tryz.ntmps38
  go_wp2_with fail
  go_ret
  exact ⟨rfl, rfl⟩
/-- A result with a text. -/
def DecdOut (d : Nat) (X : List Nat) (w : World) (e : Ending) (w' : World) : Prop :=
  ∃ D A n cp nb W lv, e = .returned (.tuple #[.pointer (some ⟨D, 0, none⟩), .nilIface]) ∧ IsRes w' D (.slice A n cp) nb (strOf X) (.slice none 0 0) lv ∧ Rd w' A n (u8s W) ∧ n ≤ 4000 ∧ Below d w w'
set_option maxRecDepth 100000 in
set_option maxHeartbeats 8000000 in
theorem decodeM (c : Bool) (L : Nat) (hL0 : 1 ≤ L) (hL : L ≤ 32) (d dd de q g rs nb al r wd : Nat) (v0 : Value) (B : Nat → Nat → Bool) (wsB ws X : List Nat) (w : World)
    (hd : Arr w d 78 [v0]) (hdd : Arr w dd 82 [.pointer (some ⟨de, 0, none⟩), .bool c, .int .i64 (nb : Nat), .int .i64 (L : Nat)]) (hde : Arr w de 109 [.pointer (some ⟨q, 0, none⟩), .slice none 0 0])
    (h1 : q < d) (h2 : g < d) (h3 : d < dd) (h4 : d < de) (hM : IsMat w q g 145 146 (azWhole c L) (azWhole c L) rs wsB B) (hrs : rs ≤ 32)
    (hwd : wd = azW L) (hwl : ws.length = al) (hal0 : al = azBitsN c L / wd) (hr : r = azBitsN c L % wd)
    (hB : ∀ i k j n, AzIn c L i k j n → B (azX c L i k j n) (azY c L i k j n) = (layBits r wd ws).getD (azIdx c L i k j n) false)
    (hnb : 1 ≤ nb) (hal : nb ≤ al) (hC : Rs.CodeL (azP wd) wd 1 (al - nb) al ws) (hin : ∀ k, k < nb → ws.getD k 0 ≠ 0 ∧ ws.getD k 0 ≠ 2 ^ wd - 1)
    (hruns : Runs (unst wd (ws.take nb)) X 0 0 0 []) :
    Calls Tryz.prog 20 #[.pointer (some ⟨d, 0, none⟩), .pointer (some ⟨dd, 0, none⟩)] w (DecdOut d X w) := by
  have hwc := azW_cases L
  rw [← hwd] at hwc
  have haf := al_facts c hL
  rw [← hwd, ← hal0] at haf
  obtain ⟨hal2, hpw⟩ := haf
  have hbits : azBitsN c L = r + wd * al := by
    rw [hr, hal0]
    have := Nat.div_add_mod (azBitsN c L) wd
    omega
  have hrw : r < wd := by rw [hr]; exact Nat.mod_lt _ (by omega)
  have hbl : (layBits r wd ws).length = azBitsN c L := by rw [layBits_len, hwl, hbits]
  have hdl := hd.lt
  obtain ⟨U, hU⟩ : ∃ U, U = unst wd (ws.take nb) := ⟨_, rfl⟩
  have hul := unst_len wd (by omega) (ws.take nb)
  have hst := stC_le wd (ws.take nb)
  rw [← hU, List.length_take, hwl, Nat.min_eq_left hal] at hul
  rw [List.length_take, hwl, Nat.min_eq_left hal] at hst
  have hm1 : wd * nb ≤ 12 * 2000 := Nat.mul_le_mul (by omega) (by omega)
  have hm2 : 6 * nb ≤ wd * nb := Nat.mul_le_mul_right _ (by omega)
  have hU5 : 5 ≤ U.length := by omega
  have hU24 : U.length ≤ 24000 := by omega
  rw [← hU] at hruns
  -- the world behind the store
  have w1d : Hid (∀ w1, w1 = w.setCell ⟨d, 0, none⟩ (.pointer (some ⟨dd, 0, none⟩)) → w1.cell? ⟨d, 0, none⟩ = some (.pointer (some ⟨dd, 0, none⟩)) ∧ w1.heap.size = w.heap.size ∧ Arr w1 dd 82 [.pointer (some ⟨de, 0, none⟩), .bool c, .int .i64 (nb : Nat), .int .i64 (L : Nat)] ∧ Arr w1 de 109 [.pointer (some ⟨q, 0, none⟩), .slice none 0 0] ∧ IsMat w1 q g 145 146 (azWhole c L) (azWhole c L) rs wsB B ∧ Below d w w1) := hid (by
    rintro w1 rfl
    have hbw := (Below.refl d w).setCell (p := ⟨d, 0, none⟩) (Nat.le_refl _) (.pointer (some ⟨dd, 0, none⟩))
    refine ⟨?_, by rw [World.size_setCell], hdd.far (by simp; omega) _, hde.far (by simp; omega) _, hM.below hbw h1, hbw⟩
    have := (hd.set 0 (.pointer (some ⟨dd, 0, none⟩))).cell? 0
    simpa using this)
  have hdd0 := hdd.cell? 0
  simp only [List.getElem?_cons_zero] at hdd0
  obtain ⟨v1, hv1⟩ := hd.has 0 (by simp)
  have fz := hd.frozen 0
  have HGB := hid (fun (w1 : World) (h : Arr w1 de 109 [.pointer (some ⟨q, 0, none⟩), .slice none 0 0]) => getBitsM de (.pointer (some ⟨q, 0, none⟩)) (.slice none 0 0) w1 h ⟨_, rfl⟩)
  have HEX := hid (fun (w1 : World) (e1 : w1.cell? ⟨d, 0, none⟩ = some (.pointer (some ⟨dd, 0, none⟩))) (e2 : d < w1.heap.size) (e3 : Arr w1 dd 82 [.pointer (some ⟨de, 0, none⟩), .bool c, .int .i64 (nb : Nat), .int .i64 (L : Nat)]) (e4 : IsMat w1 q g 145 146 (azWhole c L) (azWhole c L) rs wsB B) => extractM c L hL0 hL d dd q g rs nb (.pointer (some ⟨de, 0, none⟩)) wsB B (layBits r wd ws) w1 e1 e2 e3 e4 (by omega) hrs hbl hB)
  have HCO := hid (fun (w1 : World) (A : Option Addr) (cp : Nat) (e1 : w1.cell? ⟨d, 0, none⟩ = some (.pointer (some ⟨dd, 0, none⟩))) (e2 : d < w1.heap.size) (e3 : Arr w1 dd 82 [.pointer (some ⟨de, 0, none⟩), .bool c, .int .i64 (nb : Nat), .int .i64 (L : Nat)]) (e4 : Rd w1 A (azBitsN c L) ((layBits r wd ws).map Value.bool)) => correctM c L hL0 hL d dd nb al r wd (azBitsN c L) (.pointer (some ⟨de, 0, none⟩)) A cp ws (layBits r wd ws) w1 e1 e2 e3 e4 hwd rfl hwl hrw hbits hnb hal hal2 hpw hC hin)
  rw [← hU] at HCO
  have hpc : 100 * (al - nb) / al < 100 := Nat.div_lt_of_lt_mul (by omega)
  have HBL := hid hbl
  generalize 100 * (al - nb) / al = pc at *
  generalize azBitsN c L = BT at *
  generalize layBits r wd ws = b at *
  have HEN := hid (fun (w1 : World) (A : Option Addr) (cp : Nat) (e1 : Rd w1 A U.length (U.map Value.bool)) => encodedM U X A cp (.pointer (some ⟨d, 0, none⟩)) w1 e1 hU5 (by omega) hruns)
  have HCV := hid (fun (w1 : World) (A : Option Addr) (cp : Nat) (e1 : Rd w1 A U.length (U.map Value.bool)) => convertM A U.length cp U w1 e1 (by omega))
  have HIT := hid (fun V => itoaM pc hpc V)
  obtain ⟨N, hN⟩ : ∃ N, N = U.length := ⟨_, rfl⟩
  rw [← hN] at HEN HCV hU24
  have HN := hid hN
  have hlv : (strOf (numL pc)).size ≤ 2 := by rw [strOf_size]; unfold numL; split <;> simp
  generalize strOf (numL pc) = lv0 at *
  have hlv2 : ¬ 9223372036854775807 < lv0.size + 1 := by omega
  clear hd hdd hde hM hB hC hin hruns hU hul hst hm1 hm2 hU5 hN hbl hbits hr hal0
  go_enter Tryz.func20, Tryz.ntmps20
  go_wp2_with fail
  obtain ⟨e1, e2, e3, e4, e5, e6⟩ := w1d.out _ rfl
  generalize w.setCell ⟨d, 0, none⟩ (.pointer (some ⟨dd, 0, none⟩)) = w1 at *
  have hdl1 : d < w1.heap.size := by omega
  have hddl := e3.lt
  have H1 := hid (HGB.out w1 e4)
  have H2 := hid (HEX.out w1 e1 hdl1 e3 e5)
  have E1 := hid e1
  have E3 := hid e3
  have E6 := hid e6
  have hs1 : d ≤ w1.heap.size := Nat.le_of_lt hdl1
  clear e1 e2 e3 e4 e5 e6 w1d HGB HEX hdd0 hv1 fz
  refine H1.out.mono ?_
  rintro e w' ⟨rfl, rfl⟩
  clear H1
  go_wp2_with fail
  refine H2.out.mono ?_
  rintro e w2 ⟨gb, rfl, hA2, hb2, hgb⟩
  have hR2 := Rd.of_arr hA2
  rw [List.length_map, HBL.out] at hR2
  have H3 := hid (HCO.out w2 (some ⟨gb, 0, none⟩) BT ((hb2.cell (p := ⟨d, 0, none⟩) hdl1).trans E1.out) (Nat.lt_of_lt_of_le hdl1 hb2.size) (E3.out.below hb2 hddl) hR2)
  have B2 := hid (E6.out.trans (hb2.mono hs1))
  have hs2 : d ≤ w2.heap.size := Nat.le_trans hs1 hb2.size
  clear hA2 hb2 hgb hR2 H2 HCO E1 E3 E6
  go_wp2_with fail
  refine H3.out.mono ?_
  rintro e w3 ⟨qc, A3, c3, rfl, hA3, hle3, hR3, hb3⟩
  rw [← HN.out] at hA3 hle3 hR3
  have B3 := hid (B2.out.trans (hb3.mono hs2))
  have hs3 : d ≤ w3.heap.size := Nat.le_trans hs2 hb3.size
  have hqc := hA3.lt
  have HA3 := hid hA3
  have k0 := hA3.cell? 0
  simp only [List.getElem?_cons_zero] at k0
  have H4 := hid (HCV.out w3 A3 c3 hR3)
  have HR3 := hid hR3
  clear hA3 hb3 hR3 H3 B2 HCV
  go_wp2_with fail
  refine H4.out.mono ?_
  rintro e w4 ⟨A4, c4, W, rfl, hR4, hWl, hb4⟩
  have H5 := hid (HEN.out w4 A3 c3 (HR3.out.below hb4))
  have HA4 := hid (HA3.out.below hb4 hqc)
  have B4 := hid (B3.out.trans (hb4.mono hs3))
  have hs4 : d ≤ w4.heap.size := Nat.le_trans hs3 hb4.size
  have hqc4 : qc < w4.heap.size := Nat.lt_of_lt_of_le hqc hb4.size
  have HR4 := hid hR4
  have k4 := HA4.out.cell? 0
  simp only [List.getElem?_cons_zero] at k4
  clear k0 hb4 hR4 H4 HEN HR3 HA3 B3
  go_wp2_with fail
  refine H5.out.mono ?_
  rintro e w5 ⟨rfl, hb5⟩
  have HA5 := hid (HA4.out.below hb5 hqc4)
  have B5 := hid (B4.out.trans (hb5.mono hs4))
  have hs5 : d ≤ w5.heap.size := Nat.le_trans hs4 hb5.size
  have HR5 := hid (HR4.out.below hb5)
  have hqc5 : qc < w5.heap.size := Nat.lt_of_lt_of_le hqc4 hb5.size
  have k5 := HA5.out.cell? 1
  simp only [List.getElem?_cons_zero, List.getElem?_cons_succ] at k5
  have hn4 : (N + 7) / 8 ≤ 4000 := by omega
  clear k4 hb5 H5 HR4 HA4 B4
  go_wp2_with (first
    | (go_at_call 45; ((with_reducible refine (HIT.out _).mono ?_); rintro e w' ⟨rfl, rfl⟩))
    | (go_at_call 44; ((with_reducible refine (newResM _ _ _ _ _ hn4 _).mono ?_); rintro e w6 ⟨rfl, hres, hb6⟩; have k6 := (HA5.out.below hb6 hqc5).cell? 0; simp only [List.getElem?_cons_zero] at k6; have HRES := hid hres; have HB6 := hid hb6; clear hres hb6))
    | (go_at_call 46; ((with_reducible refine (setNumM _ _ _ _ _ _ _ _ HRES.out w5.heap.size (Nat.le_refl _)).mono ?_); rintro e w7 ⟨rfl, hres7, hb7⟩)))
  go_ret2
  have hb := HB6.out.trans hb7
  exact ⟨w5.heap.size, A4, (N + 7) / 8, c4, N, W, _, rfl, hres7, HR5.out.below hb, hn4, B5.out.trans (hb.mono hs5)⟩
end Go.Proofs.YtliephokeafllaaGreatDoor
