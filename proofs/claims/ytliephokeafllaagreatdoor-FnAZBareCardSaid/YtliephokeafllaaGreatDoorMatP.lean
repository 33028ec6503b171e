/- A matrix of bits from rows, and rows from a matrix: gozxing.ParseBoolMapToBitMatrix, impl.grid, impl.rowsOf. -/
import Derived.Test.YtliephokeafllaaGreatDoorMatW
namespace Go.Proofs.YtliephokeafllaaGreatDoor
open Go.RowKit
set_option linter.unusedVariables false

/-- Row r of rows W wide. -/
def brow (R : Nat → Nat → Bool) (W r : Nat) : List Value := (List.range W).map fun c => Value.bool (R r c)
theorem brow_len (R : Nat → Nat → Bool) (W r : Nat) : (brow R W r).length = W := by simp [brow]
theorem rd_brow {w : World} {Ra : Option Addr} {R : Nat → Nat → Bool} {W r : Nat} (h : Rd w Ra W (brow R W r)) (c : Nat) (hc : c < W) : ∃ b o, Ra = some ⟨b, o, none⟩ ∧ b < w.heap.size ∧ w.cell? ⟨b, o + c, none⟩ = some (.bool (R r c)) := by
  obtain ⟨b, o, h1, h2, h3⟩ := h.2 (by omega)
  refine ⟨b, o, h1, h2, ?_⟩
  rw [h3 c (by rw [brow_len]; exact hc)]
  simp [brow]
/-- The bits of rows, as far as row i, column j. -/
def upToB (R : Nat → Nat → Bool) (W i j : Nat) : Nat → Nat → Bool := fun x y => decide (x < W) && (decide (y < i) || (decide (y = i) && decide (x < j))) && R y x
def allB (R : Nat → Nat → Bool) (W : Nat) : Nat → Nat → Bool := fun x y => decide (x < W) && R y x

set_option maxRecDepth 20000 in
set_option maxHeartbeats 4000000 in
theorem parseRows (A : Option Addr) (c W H rs : Nat) (R : Nat → Nat → Bool) (w : World) (hX : RdRows w A H (brow R W)) (hW1 : 1 ≤ W) (hW : W ≤ 1000) (hH1 : 1 ≤ H) (hH : H ≤ 1000) (hrs : rs = (W + 31) / 32) :
    Calls Tryz.prog 29 #[.slice A H c] w (MatOut W H rs (allB R W) w) := by
  have hrs2 : rs ≤ 32 := by omega
  obtain ⟨b, o, Rr, Cr, rfl, hbw, hX⟩ := hX.opened (by omega)
  have HX := hid (fun w' hw k hk => show w'.cell? ⟨b, o + k, none⟩ = some (.slice (Rr k) W (Cr k)) ∧ Rd w' (Rr k) W (brow R W k) from by have := hX w' hw k hk; rw [brow_len] at this; exact ⟨this.1, this.2.1⟩)
  have hc0 := (HX.out w (Below.refl _ _) 0 (by omega)).1
  rw [Nat.add_zero] at hc0
  have hH' : (0 : Int) < (H : Int) := by omega
  have nb := newBits W H rs w hW1 hW hH1 hH hrs
  have HRS := hid hrs
  clear hX hrs
  go_enter Tryz.func29, Tryz.ntmps29
  go_wp2_with fail
  refine nb.mono ?_
  rintro e w1 ⟨q, g, ws, rfl, hg, hM, hb1⟩
  have HM := hid hM
  have HB1 := hid hb1
  clear nb hM hb1 hc0
  go_wp2_with fail
  go_loopw [8] (fun iv wr => ∃ (i : Nat) (ws : List Nat), i ≤ H ∧ iv = .int .i64 (i : Nat) ∧ IsMat wr q g 145 146 W H rs ws (upToB R W i 0) ∧ Below w.heap.size w wr) (fun iv _ => H - (intOf iv).toNat)
  case atStart => exact ⟨0, ws, by omega, rfl, HM.out.congr (fun x y _ _ => by simp [upToB]), HB1.out⟩
  case round =>
    clear HM HB1
    obtain ⟨i, ws2, hi, rfl, hM, hB⟩ := hrel
    have HM := hid hM
    have HB := hid hB
    clear hM hB
    by_cases hlt : i < H
    · have hlt' : (i : Int) < (H : Int) := by omega
      have hc := (HX.out wr HB.out i hlt).1
      go_wp2_with fail
      go_loopw [10] (fun jv wr => ∃ (j : Nat) (ws : List Nat), j ≤ W ∧ jv = .int .i64 (j : Nat) ∧ IsMat wr q g 145 146 W H rs ws (upToB R W i j) ∧ Below w.heap.size w wr) (fun jv _ => W - (intOf jv).toNat)
      case atStart => exact ⟨0, ws2, by omega, rfl, HM.out, HB.out⟩
      case round =>
        clear HM HB hc
        obtain ⟨j, ws3, hj, rfl, hM, hB⟩ := hrel
        have HM := hid hM
        have HB := hid hB
        clear hM hB
        by_cases hj1 : j < W
        · have hj1' : (j : Int) < (W : Int) := by omega
          obtain ⟨hc3, hr3⟩ := HX.out wr HB.out i hlt
          obtain ⟨b4, o4, hA4, hb4, hc4⟩ := rd_brow hr3 j hj1
          have hjr : j < 32 * rs := Nat.lt_of_lt_of_le hj1 HM.out.wr
          have sb := setBit q g W H rs j i ws3 _ wr HM.out hjr hlt hH hrs2
          have HSH := hid (HM.out.sh.setOn hjr hlt)
          generalize hRy : Rr i = Ry at *
          subst hA4
          have hRij : ∀ bb, R i j = bb → (∀ x y, upToB R W i (j + 1) x y = if x = j ∧ y = i then bb else upToB R W i j x y) := fun bb e x y => by
            unfold upToB
            by_cases h1 : x = j ∧ y = i
            · rw [if_pos h1, h1.1, h1.2, e]; simp [hj1]
            · rw [if_neg h1]
              by_cases h2 : y = i
              · have h3 : x ≠ j := fun h3 => h1 ⟨h3, h2⟩
                have h4 : decide (x < j + 1) = decide (x < j) := by
                  have : x < j + 1 ↔ x < j := by omega
                  exact decide_eq_decide.2 this
                rw [h4]
              · simp [h2]
          have HRIJ := hid hRij
          have hlow : upToB R W i j j i = false := by simp [upToB]
          have HLOW := hid hlow
          clear hr3 hc3 hRij hlow
          cases hb : R i j with
          | true =>
            rw [hb] at hc4
            have HBV := hid hb
            clear hb
            go_wp2_with fail
            refine sb.mono ?_
            rintro e w5 ⟨rfl, rfl⟩
            clear sb
            go_wp2_with fail
            go_roundw
            case rel =>
              refine ⟨j + 1, _, by omega, by go_num, (HM.out.put HSH.out).congr (fun x y _ _ => ?_), HB.out.setCell ?_ _⟩
              · rw [HRIJ.out true HBV.out]; rfl
              · simpa using hg
            case measure => simp [intOf]; omega
          | false =>
            rw [hb] at hc4
            have HBV := hid hb
            clear hb sb
            go_wp2_with fail
            go_roundw
            case rel =>
              refine ⟨j + 1, ws3, by omega, by go_num, HM.out.congr (fun x y _ _ => ?_), HB.out⟩
              rw [HRIJ.out false HBV.out]
              by_cases h1 : x = j ∧ y = i
              · rw [if_pos h1, h1.1, h1.2, HLOW.out]
              · rw [if_neg h1]
            case measure => simp [intOf]; omega
        · obtain rfl : j = W := by omega
          have hj1' : ¬ (j : Int) < (j : Int) := by omega
          go_wp2_with fail
          go_roundw
          case rel =>
            refine ⟨i + 1, ws3, by omega, by go_num, HM.out.congr (fun x y _ _ => ?_), HB.out⟩
            unfold upToB
            by_cases hxW : x < j
            · have : decide (y < i + 1) = (decide (y < i) || decide (y = i)) := by
                rw [← Bool.decide_or]
                exact decide_eq_decide.2 (by omega)
              simp [hxW, this]
            · simp [hxW]
          case measure => simp [intOf]; omega
    · obtain rfl : i = H := by omega
      have hlt' : ¬ (i : Int) < (i : Int) := by omega
      go_wp2_with fail
      go_ret2
      exact ⟨q, g, ws2, rfl, hg, HM.out.congr (fun x y _ hy => by simp [upToB, allB, hy]), HB.out⟩

theorem gridOf (A : Option Addr) (c W H rs : Nat) (R : Nat → Nat → Bool) (w : World) (hX : RdRows w A H (brow R W)) (hW1 : 1 ≤ W) (hW : W ≤ 1000) (hH1 : 1 ≤ H) (hH : H ≤ 1000) (hrs : rs = (W + 31) / 32) :
    Calls Tryz.prog 17 #[.slice A H c] w (MatOut W H rs (allB R W) w) := by
  have pr := parseRows A c W H rs R w hX hW1 hW hH1 hH hrs
  clear hX hrs
  go_enter Tryz.func17, Tryz.ntmps17
  go_wp2_with fail
  refine pr.mono ?_
  rintro e w1 ⟨q, g, ws, rfl, hg, hM, hb1⟩
  have HM := hid hM
  have HB1 := hid hb1
  clear pr hM hb1
  go_wp2_with fail
  go_ret2
  exact ⟨q, g, ws, rfl, hg, HM.out, HB1.out⟩
end Go.Proofs.YtliephokeafllaaGreatDoor
