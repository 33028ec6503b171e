/- encoder.MaskUtil_applyMaskPenaltyRule4: the share of dark modules. -/
import Derived.Test.YtjgckbccbambmaaByteW
namespace Go.Proofs.Ytjgckbccbambmaa
open Go.RowKit
set_option linter.unusedVariables false

/-- How many of the first c are set. -/
def cntTo (f : Nat → Bool) : Nat → Nat
  | 0 => 0
  | c + 1 => cntTo f c + if f c then 1 else 0
def darkTo (B : Nat → Nat → Bool) (n : Nat) : Nat → Nat
  | 0 => 0
  | r + 1 => darkTo B n r + cntTo (B r) n
theorem cntTo_le (f : Nat → Bool) : ∀ c, cntTo f c ≤ c
  | 0 => Nat.le_refl _
  | c + 1 => by
    have := cntTo_le f c
    rw [cntTo]
    split <;> omega
theorem darkTo_le (B : Nat → Nat → Bool) (n : Nat) : ∀ r, darkTo B n r ≤ r * n
  | 0 => by simp [darkTo]
  | r + 1 => by
    have := darkTo_le B n r
    have := cntTo_le (B r) n
    rw [darkTo, Nat.succ_mul]
    omega
/-- How far from one half. -/
def devOf (D T : Nat) : Nat := (2 * D - T) + (T - 2 * D)
/-- The penalty for it. -/
def shareOf (D T : Nat) : Nat := 10 * (10 * devOf D T / T)

section
variable {w : World} {q G n : Nat} {gs : Nat → Nat} {B : Nat → Nat → Bool}
theorem BMat.row_at {X : Nat → List Value} (h : BMat w q G n gs X) {y : Nat} (hy : y < n) (hl : (X y).length = n) : w.cell? ⟨G, y, none⟩ = some (.slice (some ⟨gs y, 0, none⟩) n n) := by
  rw [h.rows.top.cell? y]
  simp [hy, hl]
theorem BMat.at_ (h : BMat w q G n gs (cellRow B n)) {x y : Nat} (hx : x < n) (hy : y < n) : w.cell? ⟨gs y, x, none⟩ = some (cellV (B y x)) := by
  rw [(h.rows.row y hy).1.cell? x]
  simp [cellRow, hx]
end

theorem getArray (q G n : Nat) (w : World) (h : Arr w q 91 [.slice (some ⟨G, 0, none⟩) n n, .int .i64 n, .int .i64 n]) :
    Calls Try.prog 52 #[.pointer (some ⟨q, 0, none⟩)] w fun e w' => e = .returned (.slice (some ⟨G, 0, none⟩) n n) ∧ w = w' := by
  have c0 := h.cell? 0
  try simp only at c0
  clear h
  go_enter Try.func52, Try.ntmps52
  go_wp2
  go_ret
  exact ⟨rfl, rfl⟩
theorem getWidth (q G n : Nat) (w : World) (h : Arr w q 91 [.slice (some ⟨G, 0, none⟩) n n, .int .i64 n, .int .i64 n]) :
    Calls Try.prog 53 #[.pointer (some ⟨q, 0, none⟩)] w fun e w' => e = .returned (.int .i64 n) ∧ w = w' := by
  have c0 : w.cell? ⟨q, 1, none⟩ = some (.int .i64 n) := h.cell? 1
  clear h
  go_enter Try.func53, Try.ntmps53
  go_wp2
  go_ret
  exact ⟨rfl, rfl⟩
theorem getHeight (q G n : Nat) (w : World) (h : Arr w q 91 [.slice (some ⟨G, 0, none⟩) n n, .int .i64 n, .int .i64 n]) :
    Calls Try.prog 54 #[.pointer (some ⟨q, 0, none⟩)] w fun e w' => e = .returned (.int .i64 n) ∧ w = w' := by
  have c0 : w.cell? ⟨q, 2, none⟩ = some (.int .i64 n) := h.cell? 2
  clear h
  go_enter Try.func54, Try.ntmps54
  go_wp2
  go_ret
  exact ⟨rfl, rfl⟩

set_option maxRecDepth 20000 in
set_option maxHeartbeats 4000000 in
theorem rule4 (q G n : Nat) (gs : Nat → Nat) (B : Nat → Nat → Bool) (w : World) (h : BMat w q G n gs (cellRow B n)) (hn1 : 1 ≤ n) (hn : n ≤ 40) :
    Calls Try.prog 40 #[.pointer (some ⟨q, 0, none⟩)] w fun e w' => e = .returned (.int .i64 (shareOf (darkTo B n n) (n * n) : Nat)) ∧ w = w' := by
  have ga := getArray q G n w h.st
  have gw := getWidth q G n w h.st
  have gh := getHeight q G n w h.st
  have HM := hid h
  clear h
  go_enter Try.func40, Try.ntmps40
  go_wp2_with fail
  refine ga.mono ?_
  rintro e w1 ⟨rfl, rfl⟩
  go_wp2_with fail
  refine gw.mono ?_
  rintro e w1 ⟨rfl, rfl⟩
  go_wp2_with fail
  refine gh.mono ?_
  rintro e w1 ⟨rfl, rfl⟩
  clear ga
  go_wp2_with fail
  go_loopw [3, 7] (fun dv yv wr => ∃ y : Nat, y ≤ n ∧ yv = .int .i64 (y : Nat) ∧ dv = .int .i64 (darkTo B n y : Nat) ∧ w = wr) (fun _ yv _ => n - (intOf yv).toNat)
  case atStart => exact ⟨0, by omega, rfl, rfl, rfl⟩
  case round =>
    obtain ⟨y, hy, rfl, rfl, rfl⟩ := hrel
    by_cases hlt : y < n
    · have hlt' : (y : Int) < (n : Int) := by omega
      have c1 := HM.out.row_at hlt (cellRow_len B n y)
      have hdl := darkTo_le B n y
      have hyn : y * n ≤ 1600 := Nat.mul_le_mul (show y ≤ 40 by omega) hn
      have HD := hid (show darkTo B n (y + 1) = darkTo B n y + cntTo (B y) n from rfl)
      generalize darkTo B n y = d at *
      clear gw gh
      go_wp2_with fail
      go_loopw [3, 9] (fun dv xv wr => ∃ x : Nat, x ≤ n ∧ xv = .int .i64 (x : Nat) ∧ dv = .int .i64 ((d + cntTo (B y) x : Nat)) ∧ w = wr) (fun _ xv _ => n - (intOf xv).toNat)
      case atStart => exact ⟨0, by omega, rfl, rfl, rfl⟩
      case round =>
        obtain ⟨x, hx, rfl, rfl, rfl⟩ := hrel
        have hcl := cntTo_le (B y) x
        have HC := hid (show cntTo (B y) (x + 1) = cntTo (B y) x + if B y x then 1 else 0 from rfl)
        have HC0 := hid (rfl : cntTo (B y) x = cntTo (B y) x)
        by_cases hx1 : x < n
        · have hx1' : (x : Int) < (n : Int) := by omega
          have c2 := HM.out.at_ hx1 hlt
          unfold cellV at c2
          generalize hcc : cntTo (B y) x = cx at *
          cases hb : B y x with
          | true =>
            rw [hb, if_pos rfl] at c2
            rw [hb, if_pos rfl] at HC
            clear hb hcc HC0
            go_wp2_with fail
            go_roundw
            case rel => exact ⟨x + 1, by omega, by go_num, by rw [HC.out]; go_num, by first | rfl | trivial⟩
            case measure => simp [intOf]; omega
          | false =>
            rw [hb, if_neg (by simp)] at c2
            rw [hb, if_neg (by simp)] at HC
            clear hb hcc HC0
            go_wp2_with fail
            go_roundw
            case rel => exact ⟨x + 1, by omega, by go_num, by rw [HC.out, Nat.add_zero], by first | rfl | trivial⟩
            case measure => simp [intOf]; omega
        · obtain rfl : x = n := by omega
          have hx1' : ¬ (x : Int) < (x : Int) := by omega
          generalize hcc : cntTo (B y) x = cx at *
          clear hcc HC HC0
          go_wp2_with fail
          go_roundw
          case rel => exact ⟨y + 1, by omega, by go_num, by rw [HD.out], by first | rfl | trivial⟩
          case measure => simp [intOf]; omega
    · obtain rfl : y = n := by omega
      have hlt' : ¬ (y : Int) < (y : Int) := by omega
      have hdl := darkTo_le B y y
      generalize hDD : darkTo B y y = d at *
      have HDD := hid hDD
      clear hDD
      have hT1 : y * y ≤ 1600 := Nat.mul_le_mul (show y ≤ 40 by omega) hn
      have hT0 : 1 ≤ y * y := Nat.mul_pos hn1 hn1
      have hTc : (y : Int) * (y : Int) = ((y * y : Nat) : Int) := by simp
      have hwr : IntKind.i64.wrap ((y : Int) * (y : Int)) = ((y * y : Nat) : Int) := by rw [hTc]; exact IntWalk.i64_in _ ⟨by omega, by omega⟩
      go_wp2_with fail
      refine gh.mono ?_
      rintro e w1 ⟨rfl, rfl⟩
      go_wp2_with fail
      refine gw.mono ?_
      rintro e w1 ⟨rfl, rfl⟩
      clear gh gw
      generalize hTT : y * y = T at *
      have HTT := hid hTT
      clear hTT
      by_cases hneg : (d : Int) * 2 - (T : Int) < 0
      · have hdev : devOf d T = T - 2 * d := by unfold devOf; omega
        have e1 : -((d : Int) * 2 - (T : Int)) * 10 / (T : Int) = ((10 * (T - 2 * d) / T : Nat) : Int) := by
          rw [show -((d : Int) * 2 - (T : Int)) * 10 = ((10 * (T - 2 * d) : Nat) : Int) from by omega]
          exact (Int.natCast_ediv _ _).symm
        have hq : 10 * (T - 2 * d) / T ≤ 10 * (T - 2 * d) := Nat.div_le_self _ _
        have HV := hid (show shareOf d T = 10 * (10 * (T - 2 * d) / T) from by rw [shareOf, hdev])
        clear hdev
        generalize 10 * (T - 2 * d) / T = v at *
        go_wp2_with fail
        go_ret
        exact ⟨by rw [HDD.out, HTT.out, HV.out]; simp only [Ending.returned.injEq]; go_num, rfl⟩
      · have hdev : devOf d T = 2 * d - T := by unfold devOf; omega
        have e1 : ((d : Int) * 2 - (T : Int)) * 10 / (T : Int) = ((10 * (2 * d - T) / T : Nat) : Int) := by
          rw [show ((d : Int) * 2 - (T : Int)) * 10 = ((10 * (2 * d - T) : Nat) : Int) from by omega]
          exact (Int.natCast_ediv _ _).symm
        have hq : 10 * (2 * d - T) / T ≤ 10 * (2 * d - T) := Nat.div_le_self _ _
        have HV := hid (show shareOf d T = 10 * (10 * (2 * d - T) / T) from by rw [shareOf, hdev])
        clear hdev
        generalize 10 * (2 * d - T) / T = v at *
        go_wp2_with fail
        go_ret
        exact ⟨by rw [HDD.out, HTT.out, HV.out]; simp only [Ending.returned.injEq]; go_num, rfl⟩
end Go.Proofs.Ytjgckbccbambmaa
