/- impl.AZBits; FnAZLaid. -/
import Derived.Test.YtliephokeafllaaAzM
import Derived.Test.YtliephokeafllaaAzJ
import Derived.Test.YtliephokeafllaaAzN
namespace Go.Proofs.Ytliephokeafllaa
open Go.RowKit
set_option linter.unusedVariables false
set_option linter.unusedSimpArgs false

theorem extractM (c : Bool) (L : Nat) (hL0 : 1 ≤ L) (hL : L ≤ 32) (d dd q g rs nb : Nat) (pv : Value) (ws : List Nat) (B : Nat → Nat → Bool) (b : List Bool) (w : World)
    (hd : w.cell? ⟨d, 0, none⟩ = some (.pointer (some ⟨dd, 0, none⟩))) (hdw : d < w.heap.size) (hdd : Arr w dd 87 [pv, .bool c, .int .i64 (nb : Nat), .int .i64 (L : Nat)])
    (hM : IsMat w q g 112 113 (azWhole c L) (azWhole c L) rs ws B) (hg : g < w.heap.size) (hrs : rs ≤ 32) (hb : b.length = azBitsN c L)
    (hB : ∀ i k j n, AzIn c L i k j n → B (azX c L i k j n) (azY c L i k j n) = b.getD (azIdx c L i k j n) false) :
    Calls Try.prog 33 #[.pointer (some ⟨d, 0, none⟩), .pointer (some ⟨q, 0, none⟩)] w (BitsNew (azBitsN c L) b w) := by
  cases c
  · exact extractF L hL0 hL d dd q g rs nb pv ws B b w hd hdw hdd hM hg hrs hb hB
  · exact extractT L hL0 hL d dd q g rs nb pv ws B b w hd hdw hdd hM hg hrs hb hB

theorem doorM (c : Bool) (L : Nat) (hL0 : 1 ≤ L) (hL : L ≤ 32) (q g rs : Nat) (ws : List Nat) (B : Nat → Nat → Bool) (b : List Bool) (w : World)
    (hM : IsMat w q g 112 113 (azWhole c L) (azWhole c L) rs ws B) (hg : g < w.heap.size) (hrs : rs ≤ 32) (hb : b.length = azBitsN c L)
    (hB : ∀ i k j n, AzIn c L i k j n → B (azX c L i k j n) (azY c L i k j n) = b.getD (azIdx c L i k j n) false) :
    Calls Try.prog 18 #[.pointer (some ⟨q, 0, none⟩), .bool c, .int .i64 (L : Nat)] w (BitsNew (azBitsN c L) b w) := by
  have HD := hid (newDetM c 0 L q w)
  have HEX := hid (fun (w1 : World) (dd de : Nat) (hA : Arr w1 dd 87 [.pointer (some ⟨de, 0, none⟩), .bool c, .int .i64 ((0 : Nat) : Int), .int .i64 (L : Nat)]) (hb1 : Below w.heap.size w w1) =>
    extractM c L hL0 hL w1.heap.size dd q g rs 0 (.pointer (some ⟨de, 0, none⟩)) ws B b (w1.alloc (.cells #[.pointer (some ⟨dd, 0, none⟩)] 75)) ((Arr.of_new w1 75 #[.pointer (some ⟨dd, 0, none⟩)]).cell 0 (by simp)) (by simp) (hA.alloc _)
      ((hM.below hb1 hM.lt).below ((Below.refl w1.heap.size w1).alloc (Nat.le_refl _) _) (Nat.lt_of_lt_of_le hM.lt hb1.size)) (Nat.lt_of_lt_of_le hg (by have := hb1.size; simp; omega)) hrs hb hB)
  clear hM hB hb
  go_enter Try.func18, Try.ntmps18
  go_wp2_with fail
  refine HD.out.mono ?_
  rintro e w1 ⟨dd, de, rfl, hA, hA2, hb1, h1, h2⟩
  have HX := hid (HEX.out w1 dd de hA hb1)
  have HB1 := hid hb1
  clear hA hA2 hb1 HEX HD
  go_wp2_with fail
  refine HX.out.mono ?_
  rintro e w2 ⟨gg, rfl, hR, hB2, hgg⟩
  have HR := hid hR
  have HB2 := hid ((HB1.out.alloc HB1.out.size (.cells #[.pointer (some ⟨dd, 0, none⟩)] 75)).trans (hB2.mono (by have := HB1.out.size; simp; omega)))
  clear hR hB2
  go_wp2_with fail
  go_ret
  exact ⟨gg, rfl, HR.out, HB2.out, by have := HB1.out.size; simp at hgg; omega⟩

theorem azBitsOf (c : Bool) (L : Nat) (hL0 : 1 ≤ L) (hL : L ≤ 32) (A : Option Addr) (cp : Nat) (X : Nat → Nat → Bool) (b : List Bool) (w : World)
    (hX : RdRows w A (azWhole c L) (brow X (azWhole c L))) (hb : b.length = azBitsN c L) (hB : LaidTo c L b (azBitsN c L) X) :
    Calls Try.prog 8 #[.slice A (azWhole c L) cp, .bool c, .int .i64 (L : Nat)] w (BitsNew (azBitsN c L) b w) := by
  have hH200 : azWhole c L ≤ 200 := by cases c <;> simp [azWhole, azHalf] <;> omega
  have hH1 : 1 ≤ azWhole c L := by cases c <;> simp [azWhole, azHalf] <;> omega
  have HG := hid (gridOf A cp (azWhole c L) (azWhole c L) ((azWhole c L + 31) / 32) X w hX hH1 (by omega) hH1 (by omega) rfl)
  have HD := hid (fun (w1 : World) (q g : Nat) (ws : List Nat) (hM : IsMat w1 q g 112 113 (azWhole c L) (azWhole c L) ((azWhole c L + 31) / 32) ws (allB X (azWhole c L))) (hg : g < w1.heap.size) =>
    doorM c L hL0 hL q g ((azWhole c L + 31) / 32) ws (allB X (azWhole c L)) b w1 hM hg (by omega) hb (fun i k j n hI => by
      have h1 : azX c L i k j n < azWhole c L := azPl_lt (azU_lt hI)
      unfold allB
      simp only [h1, decide_true, Bool.true_and]
      exact hB i k j n hI (azIdx_lt hI)))
  generalize azBitsN c L = BT at *
  generalize azWhole c L = H at *
  generalize (H + 31) / 32 = rs at *
  clear hX hB hb
  go_enter Try.func8, Try.ntmps8
  go_wp2_with fail
  refine HG.out.mono ?_
  rintro e w1 ⟨q, g, ws, rfl, hg, hM, hb1⟩
  have HX := hid (HD.out w1 q g ws hM hM.bits.lt)
  have HB1 := hid hb1
  clear hM hb1 HD HG
  go_wp2_with fail
  refine HX.out.mono ?_
  rintro e w2 ⟨gg, rfl, hR, hB2, hgg⟩
  have HR := hid hR
  have HB2 := hid (HB1.out.trans (hB2.mono HB1.out.size))
  have hs := HB1.out.size
  clear hR hB2
  go_wp2_with fail
  go_ret
  exact ⟨gg, rfl, HR.out, HB2.out, by omega⟩

theorem u8s_of (zs : List Int) (hwf : ∀ n ∈ zs, (Lit.int .u8 n).wf = true) : zs.map (Value.int .u8) = u8s (zs.map Int.toNat) ∧ (∀ x ∈ zs.map Int.toNat, x < 256) := by
  constructor
  · unfold u8s
    rw [List.map_map]
    apply List.map_congr_left
    intro n hn
    have := wf_u8 (hwf n hn)
    show Value.int .u8 n = Value.int .u8 ((n.toNat : Nat) : Int)
    rw [Int.toNat_of_nonneg this.1]
  · intro x hx
    obtain ⟨n, hn, rfl⟩ := List.mem_map.1 hx
    have := wf_u8 (hwf n hn)
    omega
theorem azLay_bd (c : Bool) (n : Nat) : 1 ≤ azLay c n ∧ azLay c n ≤ 32 := by unfold azLay; cases c <;> simp <;> omega
/-- True, and nothing that was there has turned. -/
def TrueOut (w : World) (e : Ending) (w' : World) : Prop := e = .returned (.bool true) ∧ Below w.heap.size w w'

set_option maxHeartbeats 2000000 in
theorem laid_core (w : World) (A : Option Addr) (cap : Nat) (code : List Nat) (c : Bool) (n : Nat) (hR : Rd w A code.length (u8s code)) (h8 : ∀ x ∈ code, x < 256) (hcap : code.length ≤ cap) (hlen : cap ≤ maxLen) (hn : n < 256) :
    Calls Try.prog 3 #[.slice A code.length cap, .bool c, .int .u8 (n : Nat)] w (TrueOut w) := by
  obtain ⟨hL0, hL⟩ := azLay_bd c n
  have HLY := hid (azLayersM c n hn w)
  have HSY := hid (symbolM code c (azLay c n) hL0 hL A cap w hR h8 hcap hlen)
  have hw := azW_cases (azLay c n)
  have hbl := azBitsN_le c hL
  generalize azRun ⟨[], [], 0⟩ code (min (code.length / 2) 150) = s at *
  obtain ⟨N, hN⟩ : ∃ N, N = code.length := ⟨_, rfl⟩
  rw [← hN] at HSY ⊢
  by_cases hbig : 2147483647 < N
  · have hbig' : (2147483647 : Int) < (N : Int) := by omega
    clear HSY HLY hw hbl
    go_enter Try.func3, Try.ntmps3
    go_wp2_with fail
    go_ret
    exact ⟨rfl, Below.refl _ _⟩
  have hbig' : ¬ (2147483647 : Int) < (N : Int) := by omega
  generalize azLay c n = L at *
  have HLAY := hid (fun (W : World) (ws : List Nat) (A9 : Option Addr) (c9 : Nat) (hl : ws.length = azBitsN c L / azW L) (hR9 : Rd W A9 ws.length (ints ws)) (hlt : ∀ x ∈ ws, x < 4096) => layM c L hL0 hL ws A9 c9 W hR9 hlt hl)
  have HWB := hid (fun (W : World) (ws : List Nat) (A9 : Option Addr) (c9 : Nat) (hl : ws.length ≤ 4000) (hR9 : Rd W A9 ws.length (ints ws)) (hlt : ∀ x ∈ ws, x < 4096) => wordBitsM c L hL0 hL ws A9 c9 W hR9 hlt hl)
  have HAB := hid (fun (W : World) (A9 : Option Addr) (c9 : Nat) (X : Nat → Nat → Bool) (b : List Bool) (h1 : RdRows W A9 (azWhole c L) (brow X (azWhole c L))) (h2 : b.length = azBitsN c L) (h3 : LaidTo c L b (azBitsN c L) X) => azBitsOf c L hL0 hL A9 c9 X b W h1 h2 h3)
  have hpow : 2 ^ azW L ≤ 4096 := by rcases hw with h | h | h | h <;> rw [h] <;> decide
  have hdiv : azW L * (azBitsN c L / azW L) + azBitsN c L % azW L = azBitsN c L := Nat.div_add_mod _ _
  have hal : azBitsN c L / azW L ≤ 4000 := Nat.le_trans (Nat.div_le_div_left (show 5 ≤ azW L by omega) (by decide)) (by omega)
  clear hR h8 hcap hlen hN hw
  unfold LayOut at HLAY
  generalize hWD : azW L = wd at *
  generalize hBT : azBitsN c L = BT at *
  generalize azWhole c L = H at *
  generalize azP wd = p at *
  generalize hal2 : BT / wd = al at *
  clear hWD hBT hal2
  have HPW := hid hpow
  have HDV := hid hdiv
  clear hpow hdiv
  have HSM := hid (fun (W : World) (A9 B9 : Option Addr) (n9 c9 d9 : Nat) (l : List Bool) (h1 : Rd W A9 n9 (l.map Value.bool)) (h2 : Rd W B9 n9 (l.map Value.bool)) (h3 : n9 ≤ 1000000) => sameBits A9 B9 n9 c9 d9 l W h1 h2 h3)
  go_enter Try.func3, Try.ntmps3
  go_wp2_with (first | (go_at_call 5; ((with_reducible refine HLY.out.mono ?_); rintro e w' ⟨rfl, rfl⟩)))
  refine HSY.out.mono ?_
  rintro e w1 ⟨t, hS, ht, hcase⟩
  rcases hcase with ⟨rfl, hb⟩ | ⟨h1, h2, ws, A1, c1, rfl, hc1, hCL, htl, hR1, hb1⟩
  · have HB := hid hb
    clear hb hS ht HSY HLY HLAY HWB HAB HSM
    go_wp2_with fail
    go_ret
    exact ⟨rfl, HB.out⟩
  · have hwl : ws.length = al := hCL.2.1
    have hlt : ∀ x ∈ ws, x < 4096 := fun x hx => Nat.lt_of_lt_of_le (hCL.1 x hx) HPW.out
    have h3 := HLAY.out w1 ws A1 c1 hwl (by rw [hwl]; exact hR1) hlt
    rw [hwl] at h3
    have HL3 := hid h3
    have HLT := hid hlt
    have HWL := hid hwl
    have HR1 := hid hR1
    have HB1 := hid hb1
    have hbl2 : (layBits (BT % wd) wd ws).length = BT := by rw [layBits_len, hwl]; have := HDV.out; omega
    have HBL := hid hbl2
    have H4 := hid (show ∀ W, Rd W A1 al (ints ws) → Calls Try.prog 10 #[.slice A1 al c1, .bool c, .int .i64 (L : Nat)] W (WordsOut (layBits (BT % wd) wd ws) W) from fun W h => by
      have := HWB.out W ws A1 c1 (by omega) (by rw [hwl]; exact h) hlt
      rwa [hwl] at this)
    clear hS ht hCL htl hR1 hb1 h3 hlt hwl HSY HLY HLAY hbl2 HWB
    generalize layBits (BT % wd) wd ws = b at *
    go_wp2_with fail
    refine HL3.out.mono ?_
    rintro e w2 ⟨G, gs, X, rfl, hU, hLd, hb2, hG⟩
    have H5 := hid (HAB.out w2 (some ⟨G, 0, none⟩) H X b hU.rd HBL.out hLd)
    have HR2 := hid (HR1.out.below hb2)
    have HB2 := hid (HB1.out.trans (hb2.mono HB1.out.size))
    clear hU hLd hb2 HL3 HAB HR1 HB1
    go_wp2_with fail
    refine H5.out.mono ?_
    rintro e w3 ⟨g3, rfl, hA3, hb3, hg3⟩
    have H6 := hid (H4.out w3 (HR2.out.below hb3))
    have HA3 := hid hA3
    have HB3 := hid (HB2.out.trans (hb3.mono HB2.out.size))
    clear hA3 hb3 H5 H4 HR2 HB2
    go_wp2_with fail
    refine H6.out.mono ?_
    rintro e w4 ⟨v4, rfl, hO4, hb4⟩
    obtain ⟨A4, c4, rfl, hR4, _⟩ := hO4.form
    rw [List.length_map, HBL.out] at hR4 ⊢
    have hRd3 := Rd.of_arr (HA3.out.below hb4 HA3.out.lt)
    rw [List.length_map, HBL.out] at hRd3
    have H7 := hid (HSM.out w4 (some ⟨g3, 0, none⟩) A4 BT BT c4 b hRd3 hR4 (by omega))
    have HB4 := hid (HB3.out.trans (hb4.mono HB3.out.size))
    clear hO4 hR4 hRd3 hb4 H6 HA3 HB3 HSM
    go_wp2_with fail
    refine H7.out.mono ?_
    rintro e w5 ⟨rfl, m, rfl⟩
    go_wp2_with fail
    go_ret
    exact ⟨rfl, below_drewN HB4.out m⟩

/-- For every input FnAZLaid returns true. -/
theorem FnAZLaid_walk (w : World) (A : Option Addr) (len cap : Nat) (zs : List Int) (hS : SlIn w A len cap (zs.map (Value.int .u8))) (hwf : ∀ n ∈ zs, (Lit.int .u8 n).wf = true) (c : Bool) (z : Int) (hz : (Lit.int .u8 z).wf = true) :
    Calls Try.prog 3 #[.slice A len cap, .bool c, .int .u8 z] w (fun e w' => e = .returned (.bool true) ∧ Below w.heap.size w w') := by
  obtain ⟨h1, h2⟩ := u8s_of zs hwf
  have hR := hS.rd
  rw [h1] at hR
  obtain ⟨hl, hlc, hcm, _⟩ := hS
  have hl2 : (zs.map Int.toNat).length = len := by simpa using hl
  have hzz := wf_u8 hz
  obtain ⟨n, rfl⟩ : ∃ n : Nat, z = (n : Nat) := ⟨z.toNat, by omega⟩
  have := laid_core w A cap (zs.map Int.toNat) c n (by rw [hl2]; exact hR) h2 (by omega) hcm (by omega)
  rw [hl2] at this
  exact this
end Go.Proofs.Ytliephokeafllaa
