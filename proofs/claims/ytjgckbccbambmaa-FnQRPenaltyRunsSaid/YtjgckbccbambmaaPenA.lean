/- impl.QRPenalty at rule 1. -/
import Derived.Test.YtjgckbccbambmaaRunD
namespace Go.Proofs.Ytjgckbccbambmaa
open Go.RowKit
set_option linter.unusedVariables false

set_option maxRecDepth 20000 in
set_option maxHeartbeats 4000000 in
theorem penalty1 (A : Option Addr) (c n : Nat) (B : Nat → Nat → Bool) (w : World) (hX : RdRows w A n (cellRow B n)) (hn1 : 1 ≤ n) (hn : n ≤ 40) :
    Calls Try.prog 15 #[.int .i64 1, .slice A n c] w fun e w' => e = .returned (.int .i64 (allPen B n n + allPen (fun r c => B c r) n n : Nat)) ∧ Below w.heap.size w w' := by
  obtain ⟨b, o, R, C, rfl, hbw, hX⟩ := hX.opened (by omega)
  have HX := hid (fun w' hw k hk => show w'.cell? ⟨b, o + k, none⟩ = some (.slice (R k) n (C k)) ∧ Rd w' (R k) n (cellRow B n k) from by have := hX w' hw k hk; rw [cellRow_len] at this; exact ⟨this.1, this.2.1⟩)
  have hc0 := (HX.out w (Below.refl _ _) 0 (by omega)).1
  have hn1' : (0 : Int) < (n : Int) := by omega
  have nm := newMat n w (by omega)
  clear hX
  rw [Nat.add_zero] at hc0
  go_enter Try.func15, Try.ntmps15
  go_wp2_with fail
  refine nm.mono ?_
  rintro e w1 ⟨q, G, gs, rfl, hG, hM, hb1⟩
  have HM := hid hM
  have HB1 := hid hb1
  clear nm hM hb1 hc0
  go_wp2_with fail
  go_loopw [24] (fun yv wr => ∃ (y : Nat) (X : Nat → List Value), y ≤ n ∧ yv = .int .i64 (y : Nat) ∧ BMat wr q G n gs X ∧ Hid (∀ r, r < n → X r = if r < y then cellRow B n r else List.replicate n (.int .i8 0)) ∧ Below w.heap.size w wr) (fun yv _ => n - (intOf yv).toNat)
  case atStart => exact ⟨0, _, by omega, rfl, HM.out, hid (fun r hr => by rw [if_neg (by omega)]), HB1.out⟩
  case round =>
    clear HM HB1
    obtain ⟨y, X, hy, rfl, hM, HXX, hB⟩ := hrel
    have HM := hid hM
    have HB := hid hB
    clear hM hB
    by_cases hlt : y < n
    · have hlt' : (y : Int) < (n : Int) := by omega
      have hc := (HX.out wr HB.out y hlt).1
      have HXY := hid (show X y = List.replicate n (.int .i8 0) from by rw [HXX.out y hlt, if_neg (by omega)])
      go_wp2_with fail
      go_loopw [31] (fun xv wr => ∃ (x : Nat) (Z : Nat → List Value), x ≤ n ∧ xv = .int .i64 (x : Nat) ∧ BMat wr q G n gs Z ∧ Hid (∀ r, r < n → r ≠ y → Z r = X r) ∧ Hid (Z y = (cellRow B n y).take x ++ List.replicate (n - x) (.int .i8 0)) ∧ Below w.heap.size w wr) (fun xv _ => n - (intOf xv).toNat)
      case atStart => exact ⟨0, X, by omega, rfl, HM.out, hid (fun r _ _ => rfl), hid (by simpa using HXY.out), HB.out⟩
      case round =>
        obtain ⟨x, Z, hx, rfl, hM2, HZ, HZY, hB2⟩ := hrel
        have HM2 := hid hM2
        have HB2 := hid hB2
        clear hM2 hB2
        by_cases hx1 : x < n
        · have hx1' : (x : Int) < (n : Int) := by omega
          obtain ⟨hc3, hr3⟩ := HX.out wr HB2.out y hlt
          obtain ⟨b4, o4, hA4, hb4, hc4⟩ := hr3.2 (by omega)
          have hc5 := hc4 x (by rw [cellRow_len]; exact hx1)
          have hcell : (cellRow B n y)[x]'(by rw [cellRow_len]; exact hx1) = cellV (B y x) := by simp [cellRow]
          rw [hcell] at hc5
          unfold cellV at hc5
          have hZl : (Z y).length = n := by rw [HZY.out]; simp [cellRow_len]; omega
          have HS := hid (fill_set (.int .i8 0) (cellRow B n y) n x (by rw [cellRow_len]; exact hx1) hx1)
          rw [cellRow_at B n y x hx1] at HS
          have sm := setMat q G n x y gs Z (if B y x then 1 else 0) wr HM2.out hx1 hlt (by omega) hZl
          have HGY := hid ((HM2.out.rows.row y hlt).2)
          have HORD := hid (HM2.out.ord)
          generalize hRy : R y = Ry at *
          subst hA4
          unfold cellV at HS
          generalize (if B y x then (1 : Int) else 0) = z at *
          clear hr3 hc4 hcell hZl
          go_wp2_with fail
          refine sm.mono ?_
          rintro e w5 ⟨rfl, rfl⟩
          clear sm
          go_wp2_with fail
          go_roundw
          case rel =>
            refine ⟨x + 1, put Z y ((Z y).set x (.int .i8 z)), by omega, by go_num, ⟨HM2.out.st.far (by have := HORD.out y hlt; simp; omega) _, HM2.out.rows.set hlt, HM2.out.ord, HM2.out.gq⟩, hid (fun r hr hry => by unfold put; rw [if_neg hry]; exact HZ.out r hr hry), hid ?_, HB2.out.setCell (by have := HGY.out; simp; omega) _⟩
            unfold put
            rw [if_pos rfl, HZY.out, HS.out]
          case measure => simp [intOf]; omega
        · obtain rfl : x = n := by omega
          have hx1' : ¬ (x : Int) < (x : Int) := by omega
          have hfull := HZY.out
          rw [Nat.sub_self, List.replicate_zero, List.append_nil, List.take_of_length_le (by rw [cellRow_len]; exact Nat.le_refl _)] at hfull
          have HF := hid hfull
          clear hfull
          go_wp2_with fail
          go_roundw
          case rel =>
            refine ⟨y + 1, Z, by omega, by go_num, HM2.out, hid (fun r hr => ?_), HB2.out⟩
            by_cases hry : r = y
            · rw [hry, if_pos (by omega)]; exact HF.out
            · rw [HZ.out r hr hry, HXX.out r hr]
              by_cases h2 : r < y
              · rw [if_pos h2, if_pos (by omega)]
              · rw [if_neg h2, if_neg (by omega)]
          case measure => simp [intOf]; omega
    · obtain rfl : y = n := by omega
      have hlt' : ¬ (y : Int) < (y : Int) := by omega
      have hMM : BMat wr q G y gs (cellRow B y) := ⟨HM.out.st, HM.out.rows.congr (fun r hr => by rw [HXX.out r hr, if_pos hr]), HM.out.ord, HM.out.gq⟩
      have rl := rule1 q G y gs B wr hMM hn1 hn
      clear hMM
      go_wp2_with fail
      refine rl.mono ?_
      rintro e w5 ⟨rfl, rfl⟩
      clear rl
      go_wp2_with fail
      go_ret
      exact ⟨rfl, HB.out⟩
end Go.Proofs.Ytjgckbccbambmaa
