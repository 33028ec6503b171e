/- FnBIBoxes: the walk of the law. -/
import Derived.Test.YtmaghlckgfihcaaBoxI
namespace Go.Proofs.Ytmaghlckgfihcaa
open Go.RowKit
set_option linter.unusedVariables false

/-- A value is handed back; the world has drawn, no more. -/
def DrewVal (v : Value) (w : World) (e : Ending) (w' : World) : Prop := e = .returned v ∧ ∃ n, w.drewN n = w'

set_option maxRecDepth 20000 in
set_option maxHeartbeats 2000000 in
theorem sameNums (A B : Option Addr) (n c d : Nat) (L : List Nat) (w : World) (hA : Rd w A n (numsL L)) (hB : Rd w B n (numsL L)) (hn : n ≤ 1000) :
    Calls Try.prog 8 #[.slice A n c, .slice B n d] w (DrewVal (.bool true) w) := by
  have HA := hid hA
  have HB := hid hB
  clear hA hB
  go_enter Try.func8, Try.ntmps8
  go_wp2_with fail
  go_loopw [5] (fun iv wr => ∃ i m : Nat, i ≤ n ∧ iv = .int .i64 (i : Nat) ∧ w.drewN m = wr) (fun iv _ => n - (intOf iv).toNat)
  case atStart => exact ⟨0, 0, by omega, rfl, rfl⟩
  case round =>
    obtain ⟨i, m, hi, rfl, rfl⟩ := hrel
    by_cases hlt : i < n
    · have hlt' : (i : Int) < (n : Int) := by omega
      obtain ⟨b1, o1, rfl, hc1⟩ := HA.out.at_ i hlt
      obtain ⟨b2, o2, rfl, hc2⟩ := HB.out.at_ i hlt
      have hL : L.length = n := by have := HA.out.1; simpa [numsL] using this
      have hv : (numsL L)[i]? = some (.int .i64 (L.getD i 0 : Nat)) := by simp [numsL, List.getD, List.getElem?_eq_getElem (show i < L.length by omega)]
      rw [hv] at hc1 hc2
      generalize L.getD i 0 = v at *
      clear hv
      go_wp2_with fail
      go_quiet (fail)
      go_wp2_with fail
      go_roundw
      case rel => exact ⟨i + 1, _, by omega, by go_num, by first | rfl | exact World.drewN_drewN _ _ _ | trivial⟩
      case measure => simp [intOf]; omega
    · obtain rfl : i = n := by omega
      have hlt' : ¬ (i : Int) < (i : Int) := by omega
      go_wp2_with fail
      go_ret
      exact ⟨rfl, m, rfl⟩

set_option maxRecDepth 20000 in
set_option maxHeartbeats 4000000 in
theorem gridBox (A : Option Addr) (c W H : Nat) (R : Nat → Nat → Bool) (w : World) (hX : RdRows w A H (brow R W)) (hW1 : 1 ≤ W) (hW : W ≤ 70) (hH1 : 1 ≤ H) (hH : H ≤ 70) :
    Calls Try.prog 9 #[.slice A H c] w (ResOut (BoxRes (OnB R W H)) w) := by
  have gr := gridOf A c W H _ R w hX hW1 (by omega) hH1 (by omega) rfl
  clear hX
  go_enter Try.func9, Try.ntmps9
  go_wp2_with fail
  refine gr.mono ?_
  rintro e w1 ⟨q, g, ws, rfl, hg, hM, hb1⟩
  have im := boxImpl q g W H _ ws R w1 hM hW (by omega) (by omega) hH1 hH
  have HB1 := hid hb1
  clear gr hM hb1
  go_wp2_with fail
  refine im.mono ?_
  rintro e w2 ⟨L, A2, c2, hP, hl, rfl, hr, hb2⟩
  have HP := hid hP
  have HR := hid hr
  have HB2 := hid (HB1.out.trans (hb2.mono HB1.out.size))
  clear im hP hr hb2
  go_wp2_with fail
  go_ret
  exact ⟨L, A2, c2, HP.out, hl, rfl, HR.out, HB2.out⟩
set_option maxRecDepth 20000 in
set_option maxHeartbeats 4000000 in
theorem gridFirst (A : Option Addr) (c W H : Nat) (R : Nat → Nat → Bool) (w : World) (hX : RdRows w A H (brow R W)) (hW1 : 1 ≤ W) (hW : W ≤ 70) (hH1 : 1 ≤ H) (hH : H ≤ 70) :
    Calls Try.prog 11 #[.slice A H c] w (ResOut (FirstRes (OnB R W H)) w) := by
  have gr := gridOf A c W H _ R w hX hW1 (by omega) hH1 (by omega) rfl
  clear hX
  go_enter Try.func11, Try.ntmps11
  go_wp2_with fail
  refine gr.mono ?_
  rintro e w1 ⟨q, g, ws, rfl, hg, hM, hb1⟩
  have im := firstImpl q g W H _ ws R w1 hM (by omega) (by omega) hH1 hH
  have HB1 := hid hb1
  clear gr hM hb1
  go_wp2_with fail
  refine im.mono ?_
  rintro e w2 ⟨L, A2, c2, hP, hl, rfl, hr, hb2⟩
  have HP := hid hP
  have HR := hid hr
  have HB2 := hid (HB1.out.trans (hb2.mono HB1.out.size))
  clear im hP hr hb2
  go_wp2_with fail
  go_ret
  exact ⟨L, A2, c2, HP.out, hl, rfl, HR.out, HB2.out⟩
set_option maxRecDepth 20000 in
set_option maxHeartbeats 4000000 in
theorem gridLast (A : Option Addr) (c W H : Nat) (R : Nat → Nat → Bool) (w : World) (hX : RdRows w A H (brow R W)) (hW1 : 1 ≤ W) (hW : W ≤ 70) (hH1 : 1 ≤ H) (hH : H ≤ 70) :
    Calls Try.prog 13 #[.slice A H c] w (ResOut (LastRes (OnB R W H)) w) := by
  have gr := gridOf A c W H _ R w hX hW1 (by omega) hH1 (by omega) rfl
  clear hX
  go_enter Try.func13, Try.ntmps13
  go_wp2_with fail
  refine gr.mono ?_
  rintro e w1 ⟨q, g, ws, rfl, hg, hM, hb1⟩
  have im := lastImpl q g W H _ ws R w1 hM (by omega) (by omega) hH1 hH
  have HB1 := hid hb1
  clear gr hM hb1
  go_wp2_with fail
  refine im.mono ?_
  rintro e w2 ⟨L, A2, c2, hP, hl, rfl, hr, hb2⟩
  have HP := hid hP
  have HR := hid hr
  have HB2 := hid (HB1.out.trans (hb2.mono HB1.out.size))
  clear im hP hr hb2
  go_wp2_with fail
  go_ret
  exact ⟨L, A2, c2, HP.out, hl, rfl, HR.out, HB2.out⟩

set_option maxRecDepth 20000 in
set_option maxHeartbeats 8000000 in
theorem FnBIBoxes_walk (w : World) (x : Int) (hx : (Lit.int .u8 x).wf = true) (y : Int) (hy : (Lit.int .u8 y).wf = true) (A : Option Addr) (len cap : Nat) (zs : List Bool) (hS : SlIn w A len cap (zs.map Value.bool)) :
    Calls Try.prog 3 #[.int .u8 x, .int .u8 y, .slice A len cap] w fun e w' => e = .returned (.bool true) ∧ Below w.heap.size w w' := by
  have h0 := wf_u8 hx
  have h1 := wf_u8 hy
  obtain ⟨a, rfl⟩ := Int.eq_ofNat_of_zero_le h0.1
  obtain ⟨b, rfl⟩ := Int.eq_ofNat_of_zero_le h1.1
  have ha : a ≤ 255 := by omega
  have hb : b ≤ 255 := by omega
  clear hx hy h0 h1
  have hR := hS.rd
  obtain ⟨_, _, hcm, _⟩ := hS
  unfold maxLen at hcm
  by_cases hbig : (2147483647 : Int) < len
  · go_enter Try.func3, Try.ntmps3
    go_wp2_with fail
    go_ret
    exact ⟨rfl, Below.refl _ _⟩
  have br := biRows a b ha hb A len cap zs w hR (by omega)
  have hW1 : 1 ≤ 1 + a % 70 := by omega
  have hW : 1 + a % 70 ≤ 70 := by have := Nat.mod_lt a (show 0 < 70 by omega); omega
  have hH1 : 1 ≤ 1 + b % 70 := by omega
  have hH : 1 + b % 70 ≤ 70 := by have := Nat.mod_lt b (show 0 < 70 by omega); omega
  clear hR
  generalize 1 + a % 70 = W at *
  generalize 1 + b % 70 = H at *
  generalize wrapR zs len W = R at *
  go_enter Try.func3, Try.ntmps3
  go_wp2_with fail
  refine br.mono ?_
  rintro e w1 ⟨G, rfl, hG, hX, hb1⟩
  have HX := hid hX
  have HB1 := hid hb1
  clear br hX hb1
  go_wp2_with fail
  refine (gridBox (some ⟨G, 0, none⟩) H W H R w1 HX.out hW1 hW hH1 hH).mono ?_
  rintro e w2 ⟨L1, A1, c1, hP1, hl1, rfl, hr1, hb2⟩
  have HX2 := hid (HX.out.below hb2)
  have HB2 := hid (HB1.out.trans (hb2.mono HB1.out.size))
  have HP1 := hid hP1
  have HR1 := hid hr1
  clear hP1 hr1 hb2
  go_wp2_with fail
  refine (boxSpec (some ⟨G, 0, none⟩) H W H R w2 HX2.out hW hH1 hH).mono ?_
  rintro e w3 ⟨L2, A2, c2, hP2, hl2, rfl, hr2, hb3⟩
  obtain rfl : L1 = L2 := HP1.out.uniq hP2
  have HX3 := hid (HX2.out.below hb3)
  have HB3 := hid (HB2.out.trans (hb3.mono HB2.out.size))
  have sm := sameNums A1 A2 L1.length c1 c2 L1 w3 (HR1.out.below hb3) hr2 (by omega)
  clear hP2 hr2 hb3
  go_wp2_with fail
  refine sm.mono ?_
  rintro e w4 ⟨rfl, m4, rfl⟩
  have HX4 := hid (HX3.out.below (below_drewN (Below.refl _ _) m4))
  have HB4 := hid (below_drewN HB3.out m4)
  clear sm
  generalize w3.drewN m4 = w4 at *
  go_wp2_with fail
  refine (gridFirst (some ⟨G, 0, none⟩) H W H R w4 HX4.out hW1 hW hH1 hH).mono ?_
  rintro e w5 ⟨L3, A3, c3, hP3, hl3, rfl, hr3, hb5⟩
  have HX5 := hid (HX4.out.below hb5)
  have HB5 := hid (HB4.out.trans (hb5.mono HB4.out.size))
  have HP3 := hid hP3
  have HR3 := hid hr3
  clear hP3 hr3 hb5
  go_wp2_with fail
  refine (firstSpec (some ⟨G, 0, none⟩) H W H R w5 HX5.out hW hH1 hH).mono ?_
  rintro e w6 ⟨L4, A4, c4, hP4, hl4, rfl, hr4, hb6⟩
  obtain rfl : L3 = L4 := HP3.out.uniq hP4
  have HX6 := hid (HX5.out.below hb6)
  have HB6 := hid (HB5.out.trans (hb6.mono HB5.out.size))
  have sm := sameNums A3 A4 L3.length c3 c4 L3 w6 (HR3.out.below hb6) hr4 (by omega)
  clear hP4 hr4 hb6
  go_wp2_with fail
  refine sm.mono ?_
  rintro e w7 ⟨rfl, m7, rfl⟩
  have HX7 := hid (HX6.out.below (below_drewN (Below.refl _ _) m7))
  have HB7 := hid (below_drewN HB6.out m7)
  clear sm
  generalize w6.drewN m7 = w7 at *
  go_wp2_with fail
  refine (gridLast (some ⟨G, 0, none⟩) H W H R w7 HX7.out hW1 hW hH1 hH).mono ?_
  rintro e w8 ⟨L5, A5, c5, hP5, hl5, rfl, hr5, hb8⟩
  have HX8 := hid (HX7.out.below hb8)
  have HB8 := hid (HB7.out.trans (hb8.mono HB7.out.size))
  have HP5 := hid hP5
  have HR5 := hid hr5
  clear hP5 hr5 hb8
  go_wp2_with fail
  refine (lastSpec (some ⟨G, 0, none⟩) H W H R w8 HX8.out hW hH1 hH).mono ?_
  rintro e w9 ⟨L6, A6, c6, hP6, hl6, rfl, hr6, hb9⟩
  obtain rfl : L5 = L6 := HP5.out.uniq hP6
  have HB9 := hid (HB8.out.trans (hb9.mono HB8.out.size))
  have sm := sameNums A5 A6 L5.length c5 c6 L5 w9 (HR5.out.below hb9) hr6 (by omega)
  clear hP6 hr6 hb9
  go_wp2_with fail
  refine sm.mono ?_
  rintro e w10 ⟨rfl, m10, rfl⟩
  clear sm
  go_wp2_with fail
  go_ret
  exact ⟨rfl, below_drewN HB9.out _⟩
end Go.Proofs.Ytmaghlckgfihcaa
