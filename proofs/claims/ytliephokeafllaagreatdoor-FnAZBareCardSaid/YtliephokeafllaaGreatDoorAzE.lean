/- spec.AZWrite. -/
import Derived.Test.YtliephokeafllaaGreatDoorAzD
namespace Go.Proofs.YtliephokeafllaaGreatDoor
open Go.RowKit
set_option linter.unusedVariables false
set_option linter.unusedSimpArgs false

theorem azWidth_le (m : Nat) : azWidth m ≤ 5 := by unfold azWidth; split <;> decide
theorem step_len (code : List Nat) (i : Nat) (s : AzSt) (hm : s.mode ≤ 4) :
    (azStep code i s).bits.length ≤ s.bits.length + 600 ∧ (azStep code i s).text.length ≤ s.text.length + 70 := by
  have hw := azWidth_le s.mode
  have t := fun (m k : Nat) (h : m ≤ 4) => tab_str m k h
  unfold azStep
  simp only
  split
  · simp only [AzSt.to, AzSt.put, List.length_append, putBits_len]; omega
  split
  · have := t 3 (sayAt 3 (code.getD (i + 1) 0)) (by decide)
    simp only [AzSt.say, AzSt.put, List.length_append, putBits_len]; omega
  split
  · have := t 0 (sayAt 0 (code.getD (i + 1) 0)) (by decide)
    split
    · simp only [AzSt.say, AzSt.put, List.length_append, putBits_len]; omega
    · simp only [AzSt.say, AzSt.put, List.length_append, putBits_len]; omega
  split
  · have h70 : code.getD (i + 1) 0 % 70 < 70 := Nat.mod_lt _ (by decide)
    have hl : ((code.drop (i + 2)).take (code.getD (i + 1) 0 % 70)).length ≤ 69 := by rw [List.length_take]; omega
    unfold AzSt.bytes
    split
    · constructor <;> omega
    · simp only [List.length_append, putBits_len, byteBits_len, List.length_map]
      constructor
      · split
        · simp only [putBits_len]; omega
        · simp only [putBits_len, List.length_append]; omega
      · omega
  · have := t s.mode (sayAt s.mode (code.getD (i + 1) 0)) hm
    simp only [AzSt.say, List.length_append, putBits_len]; omega
theorem run_len (code : List Nat) : ∀ j, (azRun ⟨[], [], 0⟩ code j).mode ≤ 4 ∧ (azRun ⟨[], [], 0⟩ code j).bits.length ≤ 600 * j ∧ (azRun ⟨[], [], 0⟩ code j).text.length ≤ 70 * j
  | 0 => ⟨Nat.zero_le _, Nat.le_refl _, Nat.le_refl _⟩
  | j + 1 => by
    obtain ⟨h1, h2, h3⟩ := run_len code j
    obtain ⟨h4, h5⟩ := step_len code (2 * j) _ h1
    refine ⟨(step_grow code (2 * j) _ h1).1, ?_, ?_⟩
    · rw [azRun]; omega
    · rw [azRun]; omega

/-- The bits and the text of a writer, in new memory. -/
def WriteOut (s : AzSt) (w : World) (e : Ending) (w' : World) : Prop :=
  ∃ v, e = .returned (.tuple #[v, .string (strOf s.text)]) ∧ Own w' w.heap.size 4 v (s.bits.map Value.bool) ∧ Below w.heap.size w w'

theorem IsAz.drew {w : World} {q B : Nat} {v : Value} {s : AzSt} (h : IsAz w q B v s) : IsAz w.drew q B v s := ⟨h.cells, h.own, h.apart, h.le⟩
theorem IsAz.to_ {w : World} {q B : Nat} {v : Value} {s : AzSt} (h : IsAz w q B v s) (m : Nat) :
    IsAz (w.setCell ⟨q, 2, none⟩ (.int .i64 (m : Nat))) q B v (s.to m) ∧ Below B w (w.setCell ⟨q, 2, none⟩ (.int .i64 (m : Nat))) :=
  ⟨⟨h.cells.set 2 _, h.own.far (p := ⟨q, 2, none⟩) h.apart _, h.apart, h.le⟩, (Below.refl B w).setCell h.le _⟩

theorem latch_ok2 (m n : Nat) (hm : m ≤ 4) : (latchN m).getD (n % (latchN m).length) 0 < 2 ^ azWidth m ∧ (latchM m).getD (n % (latchN m).length) 0 ≤ 4 ∧ True ∧ 0 < (latchN m).length := by
  have h := latch_ok m n hm
  refine ⟨h.1, h.2.1, trivial, ?_⟩
  have : m = 0 ∨ m = 1 ∨ m = 2 ∨ m = 3 ∨ m = 4 := by omega
  rcases this with rfl | rfl | rfl | rfl | rfl <;> decide
theorem latch_same (m : Nat) : (latchM m).length = (latchN m).length := by
  unfold latchM latchN
  split <;> rfl

set_option maxRecDepth 20000 in
set_option maxHeartbeats 8000000 in
theorem writeM (w : World) (code : List Nat) (A : Option Addr) (c most : Nat) (hR : Rd w A code.length (u8s code)) (h8 : ∀ x ∈ code, x < 256) (hcap : code.length ≤ c) (hlen : c ≤ maxLen) (hmost : most ≤ 200) :
    Calls Tryz.prog 10 #[.slice A code.length c, .int .i64 (most : Nat)] w (WriteOut (azRun ⟨[], [], 0⟩ code (min (code.length / 2) most)) w) := by
  unfold maxLen at hlen
  obtain ⟨N, hN⟩ : ∃ N, N = code.length := ⟨_, rfl⟩
  have HN := hid hN
  rw [← hN] at hR hcap ⊢
  clear hN
  have HS0 := hid (show IsAz (w.alloc (.cells #[.slice none 0 0, .string ⟨#[]⟩, .int .i64 0] 50)) w.heap.size w.heap.size (.slice none 0 0) ⟨[], [], 0⟩ from
    ⟨Arr.of_new w 50 #[.slice none 0 0, .string ⟨#[]⟩, .int .i64 0], Own.nil _ _ _, by simp [Value.ownBlock], Nat.le_refl _⟩)
  have HB0 := hid (show Below w.heap.size w (w.alloc (.cells #[.slice none 0 0, .string ⟨#[]⟩, .int .i64 0] 50)) from (Below.refl _ _).alloc (Nat.le_refl _) _)
  have HR := hid hR
  have H8 := hid h8
  have HX := hid (show ∀ k, code.getD k 0 < 256 from fun k => by
    rcases Nat.lt_or_ge k code.length with h | h
    · rw [List.getD, List.getElem?_eq_getElem h]; exact h8 _ (List.getElem_mem h)
    · rw [List.getD, List.getElem?_eq_none h]; decide)
  clear hR h8
  go_enter Tryz.func10, Tryz.ntmps10
  go_wp2_with fail
  go_loopw [7] (fun iv wr => ∃ (i j : Nat) (v : Value) (s : AzSt), j ≤ min (N / 2) most ∧ i ≤ 2 * j ∧ 2 * j ≤ i ∧ iv = .int .i64 (i : Nat) ∧ Hid (s = azRun ⟨[], [], 0⟩ code j) ∧ Hid (IsAz wr w.heap.size w.heap.size v s) ∧ Hid (Below w.heap.size w wr)) (fun iv _ => N - (intOf iv).toNat)
  case atStart => exact ⟨0, 0, _, _, by omega, by omega, by omega, rfl, hid rfl, HS0, HB0⟩
  case round =>
    obtain ⟨i, j, v, s, hj, hi1, hi2, rfl, HS, HA, HB⟩ := hrel
    by_cases h1 : i + 1 < N
    case neg =>
      have h1' : ¬ (i : Int) + 1 < (N : Int) := by omega
      obtain rfl : j = min (N / 2) most := by omega
      obtain ⟨Ab, cb, hv, _, _⟩ := HA.out.form
      have c0 := HA.out.cells.cell 0 (by simp)
      have c1 := HA.out.cells.cell 1 (by simp)
      simp only [List.getElem_cons_zero, List.getElem_cons_succ] at c0 c1
      subst hv
      go_wp2_with fail
      go_region
      go_wp2_with fail
      go_ret2
      rw [← HS.out]
      exact ⟨_, rfl, HA.out.own, HB.out.drew⟩
    case pos =>
    by_cases h2 : i < 2 * most
    case neg =>
      have h1' : (i : Int) + 1 < (N : Int) := by omega
      have h2' : decide ((i : Int) < 2 * (most : Int)) = false := by simp; omega
      obtain rfl : j = min (N / 2) most := by omega
      obtain ⟨Ab, cb, hv, _, _⟩ := HA.out.form
      have c0 := HA.out.cells.cell 0 (by simp)
      have c1 := HA.out.cells.cell 1 (by simp)
      simp only [List.getElem_cons_zero, List.getElem_cons_succ] at c0 c1
      subst hv
      go_wp2_with fail
      go_region
      go_wp2_with fail
      go_ret2
      rw [← HS.out]
      exact ⟨_, rfl, HA.out.own, HB.out.drew⟩
    case pos =>
    have h1' : (i : Int) + 1 < (N : Int) := by omega
    have h2' : decide ((i : Int) < 2 * (most : Int)) = true := by simp; omega
    obtain ⟨gb, go, rfl, hgb, hcell⟩ := HR.out.2 (by omega)
    have HJ := hid (show j + 1 ≤ min (N / 2) most by omega)
    have HI := hid (show i = 2 * j by omega)
    have hj200 : j < 200 := by omega
    have hi400 : i < 400 := by omega
    have cell := fun k (hk : k < N) => (World.cell?_of_block (w := w) (HB.out.block gb hgb)).trans (show w.cell? ⟨gb, go + k, none⟩ = some (.int .u8 (code.getD k 0 : Nat)) from by
      have hk' : k < code.length := by rw [← HN.out]; exact hk
      rw [hcell k (by rw [u8s_len]; exact hk')]
      simp only [u8s, List.getElem_map]
      rw [List.getD, List.getElem?_eq_getElem hk']
      rfl)
    have ci := cell i (by omega)
    have ci1 := cell (i + 1) h1
    have hstep : azRun ⟨[], [], 0⟩ code (j + 1) = azStep code i s := by rw [azRun, ← HS.out, ← HI.out]
    have hlens := run_len code j
    rw [← HS.out] at hlens
    obtain ⟨hmode, hbl, htl⟩ := hlens
    have hbl2 : s.bits.length ≤ 800000 := by omega
    have htl2 : s.text.length ≤ 800000 := by omega
    have hx := HX.out (i + 1)
    have hy := HX.out i
    have HST := hid hstep
    have c2 := HA.out.cells.cell 2 (by simp)
    simp only [List.getElem_cons_zero, List.getElem_cons_succ] at c2
    have hq := HA.out.cells.lt
    have fz := HA.out.cells.frozen 2
    unfold azStep at hstep
    simp only at hstep
    clear HST hcell cell hi1 hi2 hj hbl htl
    generalize code.getD (i + 1) 0 = n at *
    generalize code.getD i 0 = y at *
    have hk16 : (y : Int) % 16 = ((y % 16 : Nat) : Int) := by omega
    have hk : y % 16 < 16 := Nat.mod_lt _ (by decide)
    generalize y % 16 = k at *
    by_cases k3 : k < 3
    case pos =>
      have k3' : (k : Int) < 3 := by omega
      rw [if_pos k3] at hstep
      have HSP := hid hstep
      have hlat := latch_ok2 s.mode n hmode
      have hlm := latchesM s.mode hmode wr
      have HLM := hid hlm
      have HLAT := hid hlat
      clear hstep hlm hlat
      go_wp2_with fail
      refine HLM.out.mono ?_
      rintro e w1 ⟨A1, B1, c1, d1, rfl, hR1, hR2, hb1, hA1, hB1⟩
      obtain ⟨ba, oa, hA1e, hba, hca⟩ := hR1.2 (by have := HLAT.out.2.2.2; exact this)
      obtain ⟨bb, ob, hB1e, hbb, hcb⟩ := hR2.2 (by have := HLAT.out.2.2.2; have := latch_same s.mode; omega)
      injection hA1e with hA1e
      injection hB1e with hB1e
      subst hA1e hB1e
      simp only at hA1 hB1
      obtain ⟨hN1, hM1, _, hL0⟩ := HLAT.out
      have hsame := latch_same s.mode
      have hr : n % (latchN s.mode).length < (latchN s.mode).length := Nat.mod_lt _ hL0
      have cA : w1.cell? ⟨ba, oa + n % (latchN s.mode).length, none⟩ = some (.int .i64 ((latchN s.mode).getD (n % (latchN s.mode).length) 0 : Nat)) := by
        rw [hca _ (by rw [ints_len]; exact hr)]
        simp only [ints, List.getElem_map]
        rw [List.getD, List.getElem?_eq_getElem hr]
        rfl
      have cB : w1.cell? ⟨bb, ob + n % (latchN s.mode).length, none⟩ = some (.int .i64 ((latchM s.mode).getD (n % (latchN s.mode).length) 0 : Nat)) := by
        rw [hcb _ (by rw [ints_len, hsame]; exact hr)]
        simp only [ints, List.getElem_map]
        rw [List.getD, List.getElem?_eq_getElem (by rw [hsame]; exact hr)]
        rfl
      rw [hsame] at *
      have hmod : (n : Int) % ((latchN s.mode).length : Int) = ((n % (latchN s.mode).length : Nat) : Int) := by omega
      have hNl : (latchN s.mode).getD (n % (latchN s.mode).length) 0 < 4096 := by
        have h2 : 2 ^ azWidth s.mode ≤ 2 ^ 5 := Nat.pow_le_pow_right (by decide) (azWidth_le _)
        omega
      have hLb : (latchN s.mode).length ≤ 3 := by
        have : s.mode = 0 ∨ s.mode = 1 ∨ s.mode = 2 ∨ s.mode = 3 ∨ s.mode = 4 := by omega
        rcases this with h | h | h | h | h <;> rw [h] <;> decide
      clear hca hcb hR1 hR2 hN1 HLM HLAT
      generalize n % (latchN s.mode).length = r at *
      generalize (latchN s.mode).length = L at *
      generalize (latchN s.mode).getD r 0 = NN at *
      generalize (latchM s.mode).getD r 0 = MM at *
      have HA1 := hid (show IsAz w1 w.heap.size w.heap.size v s from ⟨HA.out.cells.below hb1 hq, HA.out.own.below hb1 (fun k hk => (HA.out.own.lt k hk).2), HA.out.apart, HA.out.le⟩)
      have HB1 := hid (HB.out.trans (hb1.mono (B' := w.heap.size) (by omega)))
      have HVB := hid (show v.ownBlock ≠ some bb from fun h => by have := (HA.out.own.lt bb h).2; omega)
      have HWD := hid (widthM w1.drew w.heap.size w.heap.size v s HA1.out.drew)
      have hwd := azWidth_le s.mode
      have HPT := hid (putM w1.drew w.heap.size w.heap.size v s NN (azWidth s.mode) (by omega) hNl HA1.out.drew (by omega))
      generalize azWidth s.mode = wd at *
      have hLz : ¬ (L : Int) = 0 := by omega
      have HSM := hid hsame
      clear hsame c2 fz ci ci1 hb1 HA HB
      go_wp2_with fail
      go_region_with ((first | (go_at_call 23; ((with_reducible refine HWD.out.mono ?_); rintro e w2 ⟨rfl, rfl⟩)) | (go_at_call 16; ((with_reducible refine HPT.out.mono ?_); rintro e w3 ⟨rfl, v3, hA3, hB3, hF3⟩))))
      all_goals (
        have cB3 := (World.cell?_of_block (w := w1) (hF3.2 bb hbb (by omega) HVB.out).1).trans cB
        have c23 := hA3.cells.cell 2 (by simp)
        simp only [List.getElem_cons_zero, List.getElem_cons_succ] at c23
        have fz3 := hA3.cells.frozen 2
        have HT := hid (hA3.to_ MM)
        have HB3 := hid (HB1.out.drew.trans hB3)
        clear hA3 hB3 hF3 HA1 HB1 HWD HPT cA cB HVB
        go_wp2_with fail
        go_roundw
        case rel => exact ⟨i + 2, j + 1, v3, _, HJ.out, by have := HI.out; omega, by have := HI.out; omega, by go_num, hid HSP.out.symm, hid HT.out.1, hid (HB3.out.trans HT.out.2)⟩
        case measure => simp [intOf]; omega)
    case neg =>
    have k3' : ¬ (k : Int) < 3 := by omega
    rw [if_neg k3] at hstep
    have HWD := hid (widthM wr w.heap.size w.heap.size v s HA.out)
    have hwd := azWidth_le s.mode
    have hcase : (k = 3 ∧ s.mode ≠ 3) ∨ (k = 4 ∧ s.mode = 1) ∨ (k = 4 ∧ s.mode = 4) ∨ k = 5 ∨ (k = 3 ∧ s.mode = 3) ∨ (k = 4 ∧ s.mode ≠ 1 ∧ s.mode ≠ 4) ∨ 6 ≤ k := by omega
    rcases hcase with ⟨hk1, hm1⟩ | ⟨hk1, hm1⟩ | ⟨hk1, hm1⟩ | hk1 | hdef
    · have e1 : (k : Int) = 3 := by omega
      have e2 : ¬ (s.mode : Int) = 3 := by omega
      rw [if_pos ⟨hk1, hm1⟩] at hstep
      have HSP := hid hstep
      have HPT := hid (putM wr w.heap.size w.heap.size v s 0 (azWidth s.mode) (by omega) (by omega) HA.out (by omega))
      have hpb : (s.put 0 (azWidth s.mode)).bits.length ≤ 900000 := by simp only [AzSt.put, List.length_append, putBits_len]; omega
      clear hstep hk1 hm1
      generalize azWidth s.mode = wd at *
      go_wp2_with ((first | (go_at_call 23; ((with_reducible refine HWD.out.mono ?_); rintro e w2 ⟨rfl, rfl⟩))))
      refine HPT.out.mono ?_
      rintro e w3 ⟨rfl, v3, hA3, hB3, hF3⟩
      have HSY := hid (sayM w3 w.heap.size w.heap.size v3 (s.put 0 wd) 3 n 5 (by decide) (by decide) (by omega) hA3 (by omega) (by show s.text.length ≤ _; omega))
      have HB3 := hid (HB.out.trans hB3)
      clear hA3 hB3 hF3 HA HB HWD HPT
      go_wp2_with fail
      refine HSY.out.mono ?_
      rintro e w4 ⟨rfl, v4, hA4, hB4, hF4⟩
      have HA4 := hid hA4
      have HB4 := hid (HB3.out.trans hB4)
      clear hA4 hB4 hF4 HB3 HSY
      go_wp2_with fail
      go_roundw
      case rel => exact ⟨i + 2, j + 1, v4, _, HJ.out, by have := HI.out; omega, by have := HI.out; omega, by go_num, hid HSP.out.symm, HA4, HB4⟩
      case measure => simp [intOf]; omega
    · have e1 : (k : Int) = 4 := by omega
      have e2 : (s.mode : Int) = 1 := by omega
      rw [if_neg (by omega), if_pos ⟨hk1, Or.inl hm1⟩, if_pos hm1] at hstep
      have HSP := hid hstep
      have HPT := hid (putM wr w.heap.size w.heap.size v s 28 5 (by omega) (by omega) HA.out (by omega))
      have hpb : (s.put 28 5).bits.length ≤ 900000 := by simp only [AzSt.put, List.length_append, putBits_len]; omega
      clear hstep hk1 hm1
      go_wp2_with fail
      refine HPT.out.mono ?_
      rintro e w3 ⟨rfl, v3, hA3, hB3, hF3⟩
      have HSY := hid (sayM w3 w.heap.size w.heap.size v3 (s.put 28 5) 0 n 5 (by decide) (by decide) (by omega) hA3 (by omega) (by show s.text.length ≤ _; omega))
      have HB3 := hid (HB.out.trans hB3)
      clear hA3 hB3 hF3 HA HB HWD HPT
      go_wp2_with fail
      refine HSY.out.mono ?_
      rintro e w4 ⟨rfl, v4, hA4, hB4, hF4⟩
      have HA4 := hid hA4
      have HB4 := hid (HB3.out.trans hB4)
      clear hA4 hB4 hF4 HB3 HSY
      go_wp2_with fail
      go_roundw
      case rel => exact ⟨i + 2, j + 1, v4, _, HJ.out, by have := HI.out; omega, by have := HI.out; omega, by go_num, hid HSP.out.symm, HA4, HB4⟩
      case measure => simp [intOf]; omega
    · have e1 : (k : Int) = 4 := by omega
      have e2 : (s.mode : Int) = 4 := by omega
      rw [if_neg (by omega), if_pos ⟨hk1, Or.inr hm1⟩, if_neg (by omega)] at hstep
      have HSP := hid hstep
      have HPT := hid (putM wr w.heap.size w.heap.size v s 15 4 (by omega) (by omega) HA.out (by omega))
      have hpb : (s.put 15 4).bits.length ≤ 900000 := by simp only [AzSt.put, List.length_append, putBits_len]; omega
      clear hstep hk1 hm1
      go_wp2_with fail
      refine HPT.out.mono ?_
      rintro e w3 ⟨rfl, v3, hA3, hB3, hF3⟩
      have HSY := hid (sayM w3 w.heap.size w.heap.size v3 (s.put 15 4) 0 n 5 (by decide) (by decide) (by omega) hA3 (by omega) (by show s.text.length ≤ _; omega))
      have HB3 := hid (HB.out.trans hB3)
      clear hA3 hB3 hF3 HA HB HWD HPT
      go_wp2_with fail
      refine HSY.out.mono ?_
      rintro e w4 ⟨rfl, v4, hA4, hB4, hF4⟩
      have HA4 := hid hA4
      have HB4 := hid (HB3.out.trans hB4)
      clear hA4 hB4 hF4 HB3 HSY
      go_wp2_with fail
      go_roundw
      case rel => exact ⟨i + 2, j + 1, v4, _, HJ.out, by have := HI.out; omega, by have := HI.out; omega, by go_num, hid HSP.out.symm, HA4, HB4⟩
      case measure => simp [intOf]; omega
    · have e1 : (k : Int) = 5 := by omega
      rw [if_neg (by omega), if_neg (by omega), if_pos hk1] at hstep
      have HSP := hid hstep
      clear hstep hk1
      have hn70 : (n : Int) % 70 = ((n % 70 : Nat) : Int) := by omega
      have hnl : n % 70 < 70 := Nat.mod_lt _ (by decide)
      generalize n % 70 = d at *
      obtain ⟨F, hF⟩ : ∃ F, F = i + 2 := ⟨_, rfl⟩
      have hmn : (if (i : Int) + 2 < (N : Int) then (i : Int) + 2 else (N : Int)) = (F : Nat) := by split <;> omega
      obtain ⟨M, hM⟩ : ∃ M, M = min N (F + d) := ⟨_, rfl⟩
      have hmn2 : (if (F : Int) + (d : Int) < (N : Int) then (F : Int) + (d : Int) else (N : Int)) = (M : Nat) := by split <;> omega
      have hFM : F ≤ M := by omega
      have hMN : M ≤ N := by omega
      have hMd : M ≤ F + d := by omega
      obtain ⟨l, hl⟩ : ∃ l, l = (code.drop (i + 2)).take d := ⟨_, rfl⟩
      have hll : l.length = M - F := by rw [hl, List.length_take, List.length_drop, ← HN.out]; omega
      rw [← hl] at HSP
      have h8l : ∀ x ∈ l, x < 256 := fun x hx => H8.out x (List.mem_of_mem_drop (List.mem_of_mem_take (by rw [← hl]; exact hx)))
      have hRl : ∀ A', (F < c → A' = some ⟨gb, go + F, none⟩) → Rd wr A' l.length (u8s l) := fun A' hA' => by
        refine ⟨u8s_len l, fun h0 => ?_⟩
        have hFN : F < N := by omega
        refine ⟨gb, go + F, hA' (by omega), Nat.lt_of_lt_of_le hgb (by omega), fun t ht => ?_⟩
        rw [u8s_len] at ht
        have hR := HR.out.2 (by omega)
        obtain ⟨b1, o1, hb1, _, hc1⟩ := hR
        injection hb1 with hb1
        injection hb1 with hb1 ho1
        subst hb1 ho1
        have := hc1 (F + t) (by rw [u8s_len, ← HN.out]; omega)
        rw [← Nat.add_assoc] at this
        rw [(World.cell?_of_block (w := w) (HB.out.block gb hgb)).trans this]
        simp only [u8s, List.getElem_map, hl, List.getElem_take, List.getElem_drop, hF]
      have hFc : F ≤ c := by omega
      have HF := hid hF
      have HBY := fun (A' : Option Addr) (c' : Nat) (hA' : F < c → A' = some ⟨gb, go + F, none⟩) (hap : ∀ ad, A' = some ad → ad.block = gb) => by
        have h1 := bytesM wr w.heap.size w.heap.size v s l A' c' (hRl A' hA') h8l (fun ad had => by rw [hap ad had]; exact ⟨by omega, fun h => by have := (HA.out.own.lt gb h).1; omega⟩) (by omega) HA.out hmode (by omega) (by omega)
        rwa [hll] at h1
      have HBY := hid HBY
      clear hRl h8l hll hl hM hF HWD
      by_cases hcF : c = F
      case' pos =>
        subst hcF
        obtain rfl : M = c := by omega
        have hz := HBY.out (some ⟨gb, go, none⟩) 0 (fun h => by omega) (fun ad had => by injection had with had; rw [← had])
        rw [Nat.sub_self] at hz
        have HBZ := hid hz
        clear hz
      case' neg =>
        have HBZ := hid (HBY.out (some ⟨gb, go + F, none⟩) (c - F) (fun _ => rfl) (fun ad had => by injection had with had; rw [← had]))
      all_goals
        go_wp2_with fail
        refine HBZ.out.mono ?_
        rintro e w3 ⟨rfl, v3, hA3, hB3, hF3⟩
        have HA3 := hid hA3
        have HB3 := hid (HB.out.trans hB3)
        clear hA3 hB3 hF3 HA HB HBY HBZ
        go_wp2_with fail
        go_roundw
        case rel => exact ⟨i + 2, j + 1, v3, _, HJ.out, by have := HI.out; omega, by have := HI.out; omega, by go_num, hid HSP.out.symm, HA3, HB3⟩
        case measure => simp [intOf]; omega
    · rw [if_neg (by omega), if_neg (by omega), if_neg (by omega)] at hstep
      have HSP := hid hstep
      have HWD2 := hid (widthM wr.drew w.heap.size w.heap.size v s HA.out.drew)
      have HSY := hid (sayM wr.drew w.heap.size w.heap.size v s s.mode n (azWidth s.mode) hmode (by omega) (by omega) HA.out.drew (by omega) (by omega))
      clear hstep HWD
      generalize azWidth s.mode = wd at *
      rcases hdef with ⟨hk1, hm1⟩ | ⟨hk1, hm1, hm2⟩ | hk1
      · have e1 : (k : Int) = 3 := by omega
        have e2 : 3 ≤ (s.mode : Int) := by omega
        have e5 : (s.mode : Int) ≤ 3 := by omega
        have e3 : ¬ (k : Int) = 4 := by omega
        have e4 : ¬ (k : Int) = 5 := by omega
        clear hk1 hm1
        go_wp2_with fail
        go_region_with ((first | (go_at_call 23; ((with_reducible refine HWD2.out.mono ?_); rintro e w2 ⟨rfl, rfl⟩)) | (go_at_call 24; ((with_reducible refine HSY.out.mono ?_); rintro e w3 ⟨rfl, v3, hA3, hB3, hF3⟩))))
        all_goals (
          have HA3 := hid hA3
          have HB3 := hid (HB.out.drew.trans hB3)
          clear hA3 hB3 hF3 HA HB HWD2 HSY
          go_wp2_with fail
          go_roundw
          case rel => exact ⟨i + 2, j + 1, v3, _, HJ.out, by have := HI.out; omega, by have := HI.out; omega, by go_num, hid HSP.out.symm, HA3, HB3⟩
          case measure => simp [intOf]; omega)
      · have e1 : ¬ (k : Int) = 3 := by omega
        have e2 : (k : Int) = 4 := by omega
        have e3 : ¬ (s.mode : Int) = 1 := by omega
        have e4 : ¬ (s.mode : Int) = 4 := by omega
        have e5 : ((s.mode : Int) == 1) = false := by simp; omega
        have e6 : ((s.mode : Int) == 4) = false := by simp; omega
        clear hk1 hm1 hm2
        go_wp2_with fail
        go_region_with ((first | (go_at_call 23; ((with_reducible refine HWD2.out.mono ?_); rintro e w2 ⟨rfl, rfl⟩)) | (go_at_call 24; ((with_reducible refine HSY.out.mono ?_); rintro e w3 ⟨rfl, v3, hA3, hB3, hF3⟩))))
        all_goals (
          have HA3 := hid hA3
          have HB3 := hid (HB.out.drew.trans hB3)
          clear hA3 hB3 hF3 HA HB HWD2 HSY
          go_wp2_with fail
          go_roundw
          case rel => exact ⟨i + 2, j + 1, v3, _, HJ.out, by have := HI.out; omega, by have := HI.out; omega, by go_num, hid HSP.out.symm, HA3, HB3⟩
          case measure => simp [intOf]; omega)
      · have e1 : ¬ (k : Int) = 3 := by omega
        have e2 : ¬ (k : Int) = 4 := by omega
        have e3 : ¬ (k : Int) = 5 := by omega
        clear hk1
        go_wp2_with fail
        go_region_with ((first | (go_at_call 23; ((with_reducible refine HWD2.out.mono ?_); rintro e w2 ⟨rfl, rfl⟩)) | (go_at_call 24; ((with_reducible refine HSY.out.mono ?_); rintro e w3 ⟨rfl, v3, hA3, hB3, hF3⟩))))
        all_goals (
          have HA3 := hid hA3
          have HB3 := hid (HB.out.drew.trans hB3)
          clear hA3 hB3 hF3 HA HB HWD2 HSY
          go_wp2_with fail
          go_roundw
          case rel => exact ⟨i + 2, j + 1, v3, _, HJ.out, by have := HI.out; omega, by have := HI.out; omega, by go_num, hid HSP.out.symm, HA3, HB3⟩
          case measure => simp [intOf]; omega)
end Go.Proofs.YtliephokeafllaaGreatDoor
