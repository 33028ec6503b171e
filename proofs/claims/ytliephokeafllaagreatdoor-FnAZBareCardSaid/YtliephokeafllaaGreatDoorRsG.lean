/- The package's decoder on words of a code (turned from the seat of Reed-Solomon). -/
import Derived.Test.YtliephokeafllaaGreatDoorRsF
namespace Go.Proofs.YtliephokeafllaaGreatDoor.Rs
open Go.RowKit
set_option linter.unusedVariables false

theorem IsField.below {w w' : World} {g p m base : Nat} (h : IsField w g p m base) (hB : Below w.heap.size w w') : IsField w' g p m base := by
  obtain ⟨ge, gl, qz, qo, a1, a2, a3, a4, a5⟩ := h
  exact ⟨ge, gl, qz, qo, a1.below hB a1.lt, a2.below hB a2.lt, a3.below hB a3.lt, a4.below hB, a5.below hB⟩
theorem newDec (g : Nat) (w : World) : Calls Tryz.prog 65 #[fieldPtr g] w fun e w' => ∃ D, e = .returned (fieldPtr D) ∧ w.heap.size ≤ D ∧ Arr w' D 151 [fieldPtr g] ∧ Below w.heap.size w w' := by
  unfold fieldPtr
  go_enter Tryz.func65, Tryz.ntmps65
  go_wp2
  go_ret
  exact ⟨w.heap.size, rfl, Nat.le_refl _, Arr.of_new w 151 #[.pointer (some ⟨g, 0, none⟩)], (Below.refl _ _).alloc (Nat.le_refl _) _⟩
def NilOut (w : World) (e : Ending) (w' : World) : Prop := e = .returned .nilIface ∧ Below w.heap.size w w'

attribute [local go_sem ↓] Go.wp_at_zero Go.wp_at_succ
set_option maxRecDepth 100000 in
set_option maxHeartbeats 8000000 in
theorem decZero (D g p m base n c R : Nat) (A : Option Addr) (l : List Nat) (w : World) (h : IsGF p m) (hb1 : base ≤ 1) (hF : IsField w g p m base) (hD : Arr w D 151 [fieldPtr g]) (hT : Rd w A n (ints l)) (hl : l.length = n) (hn1 : 1 ≤ n) (hn : n ≤ 2000) (hnc : n ≤ c) (hA : AllIn m l) (hR : R ≤ 2000) (hRm : R + base ≤ 2 ^ m)
    (hZ : ∀ i, i < R → valAt p m (ex p m (i + base)) l = 0) :
    Calls Tryz.prog 66 #[fieldPtr D, .slice A n c, .int .i64 R] w (NilOut w) := by
  have hN1 : 2 ^ m ≤ 4096 := Nat.pow_le_pow_right (n := 2) (by omega) h.small
  obtain ⟨i0, hi, hz0, hz1, hz2⟩ := info_parts info3
  have hDl := hD.lt
  have H := hid h
  have HF := hid hF
  have HLN := hid hl
  have HA := hid hA
  have HZ := hid hZ
  have hDc : w.cell? ⟨D, 0, none⟩ = some (fieldPtr g) := hD.cell? 0
  have HDC := hid hDc
  have np := newPoly (some ⟨g, 0, none⟩) A n c l 0 w hT hn1 (by omega) hnc (fun a e => Nat.zero_le _) (Nat.zero_le _)
  have hmk := fun W => run_make (P := Tryz.prog) W 25 3 i0 (.int .i64 0) Tryz.underlying25 hi hz0 .i64 .i64 (R : Int) (R : Int) (by omega) (by omega) (by rw [hz2]; omega) (by omega)
  simp only [hz1] at hmk
  clear h hF hD hT hl hA hZ
  unfold fieldPtr at *
  go_enter Tryz.func66, Tryz.ntmps66
  go_wp2_with fail
  refine np.mono ?_
  rintro e w1 ⟨qp, rfl, hqp, hP, hb⟩
  have HP := hid hP
  have HB1 := hid hb
  have hD1 := (hb.cell (p := ⟨D, 0, none⟩) hDl).trans HDC.out
  clear np hP hb hDc
  go_wp2_with fail
  have HA2 := hid (Arr.made w1 3 (.int .i64 0) R)
  have HB2 := hid (show Below w1.heap.size w1 (w1.alloc (.cells (madeCells #[.int .i64 0] R) 3)) from (Below.refl _ _).alloc (Nat.le_refl _) _)
  have hS1 := HB1.out.size
  generalize hw2 : w1.alloc (.cells (madeCells #[.int .i64 0] R) 3) = w2 at *
  clear hw2 hmk hD1
  have FB := hid (fun W (hW : Below w1.heap.size w1 W) => HF.out.below (HB1.out.trans (hW.mono hS1)))
  have DB := hid (fun W (hW : Below w1.heap.size w1 W) => ((HB1.out.trans (hW.mono hS1)).cell (p := ⟨D, 0, none⟩) hDl).trans HDC.out)
  have PB := hid (fun W (hW : Below w1.heap.size w1 W) => HP.out.below hW)
  have hTL : 1 ≤ (tidy l).length := (tidy_cases l).1
  have hTL2 : (tidy l).length ≤ 2000 := Nat.le_trans (tidy_len_le (by rw [HLN.out]; omega) (by rw [HLN.out]; exact Nat.le_refl _)) hn
  have HTA := hid (tidy_in H.out HA.out)
  go_loopw [10, 11] (fun bv iv wr => ∃ (k : Nat), k ≤ R ∧ iv = .int .i64 (k : Nat) ∧ bv = .bool true ∧ Arr wr w1.heap.size 3 (List.replicate R (.int .i64 0)) ∧ Below w1.heap.size w1 wr) (fun _ iv _ => R - (intOf iv).toNat)
  case atStart => exact ⟨0, by omega, rfl, rfl, HA2.out, HB2.out⟩
  case round =>
    clear HA2 HB2
    obtain ⟨k, hk, rfl, rfl, hAx, hBx⟩ := hrel
    have hDx := DB.out wr hBx
    have HAX := hid hAx
    have HBX := hid hBx
    by_cases hlt : k < R
    · have hlt' : (k : Int) < (R : Int) := by omega
      have bo := fun M => baseOf g p m base (wr.drewN M) (FB.out _ (below_drewN hBx M))
      have ea := fun M => exp_sum (wr.drewN M) g p m base k (FB.out _ (below_drewN hBx M)) (by omega) hb1 (by omega)
      have hxl := ex_lt H.out (k + base)
      have hval : valAt p m (ex p m (k + base)) (tidy l) = 0 := by rw [val_tidy H.out hxl l HA.out]; exact HZ.out k hlt
      generalize ex p m (k + base) = x at *
      have ev := fun M => evaluateAt qp g p m base 0 x (tidy l) (wr.drewN M) H.out (FB.out _ (below_drewN hBx M)) (PB.out _ (below_drewN hBx M)) hTL (by omega) hxl HTA.out
      rw [hval] at ev
      have hsum : IntKind.i64.wrap ((k : Int) + (base : Int)) = (k : Int) + (base : Int) := IntWalk.i64_in _ ⟨by omega, by omega⟩
      have i1 : (0 : Int) ≤ (R : Int) - 1 - (k : Int) := by omega
      have i2 : (R : Int) - 1 - (k : Int) < (R : Int) := by omega
      have i3 : ((R : Int) - 1 - (k : Int)).toNat = R - 1 - k := by omega
      have HSET := hid (show (List.replicate R (Value.int .i64 0)).set (R - 1 - k) (.int .i64 0) = List.replicate R (.int .i64 0) from by
        apply List.ext_getElem (by simp)
        intro i h1 h2
        rw [List.getElem_set]
        split <;> simp)
      have hcell := fun M => (HAX.out.drewN M).has (R - 1 - k) (by rw [List.length_replicate]; omega)
      have fz := fun M => (HAX.out.drewN M).frozen (R - 1 - k)
      have HC := hid hcell
      clear hAx hBx hcell hval
      simp only [Int.natCast_zero] at ev
      unfold fieldPtr at *
      go_wp2_with fail
      go_quiet ((first | (go_at_call 91; exact (bo _).mono fun _ _ hh => ⟨hh.1, _, hh.2.symm⟩) | (go_at_call 90; exact (ea _).mono fun _ _ hh => ⟨hh.1, _, hh.2.symm⟩) | (go_at_call 89; exact (ev _).mono fun _ _ hh => ⟨hh.1, by obtain ⟨n2, hn2⟩ := hh.2; exact ⟨_, hn2.trans (World.drewN_drewN _ _ _)⟩⟩)))
      clear bo ea ev
      generalize hw4 : wr.drewN _ = w4 at *
      have HAX4 := hid (show Arr w4 w1.heap.size 3 (List.replicate R (.int .i64 0)) from by rw [← hw4]; exact HAX.out.drewN _)
      have HBX4 := hid (show Below w1.heap.size w1 w4 from by rw [← hw4]; exact below_drewN HBX.out _)
      obtain ⟨v0, hv0⟩ : ∃ v0, w4.cell? ⟨w1.heap.size, R - 1 - k, none⟩ = some v0 := HAX4.out.has _ (by rw [List.length_replicate]; omega)
      have fz4 := HAX4.out.frozen (R - 1 - k)
      clear hw4 HAX HBX HC fz hDx
      go_wp2_with fail
      go_roundw
      case rel =>
        refine ⟨k + 1, by omega, by go_num, rfl, ?_, HBX4.out.setCell (Nat.le_refl _) _⟩
        have := HAX4.out.set (R - 1 - k) (.int .i64 0)
        rw [HSET.out] at this
        exact this
      case measure => simp [intOf]; omega
    · obtain rfl : k = R := by omega
      have hlt' : ¬ (k : Int) < (k : Int) := by omega
      have HBW := hid (HB1.out.trans (HBX.out.mono hS1))
      clear hAx hBx HAX
      go_wp2_with fail
      go_ret
      exact ⟨rfl, HBW.out⟩
end Go.Proofs.YtliephokeafllaaGreatDoor.Rs
