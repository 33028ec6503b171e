/- encoder.MaskUtil_applyMaskPenaltyRule1: runs of modules alike. -/
import Derived.Test.YtjgckbccbambmaaRuleD
namespace Go.Proofs.Ytjgckbccbambmaa
open Go.RowKit
set_option linter.unusedVariables false

/-- Bit c is as the one ahead of it. -/
def sameAt (f : Nat → Bool) : Nat → Bool
  | 0 => false
  | c + 1 => f (c + 1) == f c
def runPen (k : Nat) : Nat := if 5 ≤ k then k - 2 else 0
/-- The run that ends ahead of bit c, and what the runs ahead of it cost. -/
def runAt (f : Nat → Bool) : Nat → Nat
  | 0 => 0
  | c + 1 => if sameAt f c then runAt f c + 1 else 1
def penAt (f : Nat → Bool) : Nat → Nat
  | 0 => 0
  | c + 1 => if sameAt f c then penAt f c else penAt f c + runPen (runAt f c)
def rowPen (f : Nat → Bool) (n : Nat) : Nat := penAt f n + runPen (runAt f n)
def allPen (B : Nat → Nat → Bool) (n : Nat) : Nat → Nat
  | 0 => 0
  | r + 1 => allPen B n r + rowPen (B r) n
theorem runPen_le (k : Nat) : runPen k ≤ k := by unfold runPen; split <;> omega
theorem pen_run_le (f : Nat → Bool) : ∀ c, penAt f c + runAt f c ≤ c
  | 0 => Nat.le_refl _
  | c + 1 => by
    have h1 := pen_run_le f c
    have h2 := runPen_le (runAt f c)
    rw [penAt, runAt]
    split <;> omega
theorem rowPen_le (f : Nat → Bool) (n : Nat) : rowPen f n ≤ n := by
  have h1 := pen_run_le f n
  have h2 := runPen_le (runAt f n)
  unfold rowPen
  omega
theorem allPen_le (B : Nat → Nat → Bool) (n : Nat) : ∀ r, allPen B n r ≤ r * n
  | 0 => by simp [allPen]
  | r + 1 => by
    have := allPen_le B n r
    have := rowPen_le (B r) n
    rw [allPen, Nat.succ_mul]
    omega
def bitV (b : Bool) : Int := if b then 1 else 0
def prevV (f : Nat → Bool) : Nat → Int
  | 0 => -1
  | c + 1 => bitV (f c)
theorem bit_prev (f : Nat → Bool) (c : Nat) : (bitV (f c) == prevV f c) = sameAt f c := by
  cases c with
  | zero => cases f 0 <;> rfl
  | succ c => cases h1 : f (c + 1) <;> cases h2 : f c <;> simp [prevV, sameAt, bitV, h1, h2]
theorem bit_bd (b : Bool) : 0 ≤ bitV b ∧ bitV b ≤ 1 := by cases b <;> simp [bitV]
theorem prev_bd (f : Nat → Bool) (c : Nat) : -1 ≤ prevV f c ∧ prevV f c ≤ 1 := by
  cases c with
  | zero => simp [prevV]
  | succ c => have := bit_bd (f c); simp only [prevV]; omega


set_option maxRecDepth 20000 in
set_option maxHeartbeats 4000000 in
theorem ruleRow (q G n : Nat) (gs : Nat → Nat) (B : Nat → Nat → Bool) (w : World) (h : BMat w q G n gs (cellRow B n)) (hn : n ≤ 40) :
    Calls Try.prog 51 #[.pointer (some ⟨q, 0, none⟩), .bool true] w fun e w' => e = .returned (.int .i64 (allPen B n n : Nat)) ∧ w = w' := by
  have ga := getArray q G n w h.st
  have gw := getWidth q G n w h.st
  have gh := getHeight q G n w h.st
  have HM := hid h
  clear h
  go_enter Try.func51, Try.ntmps51
  go_wp2_with fail
  refine gw.mono ?_
  rintro e w1 ⟨rfl, rfl⟩
  go_wp2_with fail
  refine gh.mono ?_
  rintro e w1 ⟨rfl, rfl⟩
  go_wp2_with fail
  refine ga.mono ?_
  rintro e w1 ⟨rfl, rfl⟩
  clear ga gw gh
  go_wp2_with fail
  go_loopw [5, 9] (fun pv iv wr => ∃ i : Nat, i ≤ n ∧ iv = .int .i64 (i : Nat) ∧ pv = .int .i64 (allPen B n i : Nat) ∧ w = wr) (fun _ iv _ => n - (intOf iv).toNat)
  case atStart => exact ⟨0, by omega, rfl, rfl, rfl⟩
  case round =>
    obtain ⟨i, hi, rfl, rfl, rfl⟩ := hrel
    have hal := allPen_le B n i
    have hin : i * n ≤ 1600 := Nat.mul_le_mul (show i ≤ 40 by omega) hn
    by_cases hlt : i < n
    · have hlt' : (i : Int) < (n : Int) := by omega
      have HA := hid (show allPen B n (i + 1) = allPen B n i + rowPen (B i) n from rfl)
      generalize allPen B n i = P at *
      go_wp2_with fail
      go_loopw [5, 10, 11, 12] (fun pv nv qv jv wr => ∃ j : Nat, j ≤ n ∧ jv = .int .i64 (j : Nat) ∧ nv = .int .i64 (runAt (B i) j : Nat) ∧ qv = .int .i64 (prevV (B i) j) ∧ pv = .int .i64 (P + penAt (B i) j : Nat) ∧ w = wr) (fun _ _ _ jv _ => n - (intOf jv).toNat)
      case atStart => exact ⟨0, by omega, rfl, rfl, rfl, rfl, rfl⟩
      case round =>
        obtain ⟨j, hj, rfl, rfl, rfl, rfl, rfl⟩ := hrel
        have hpr := pen_run_le (B i) j
        by_cases hj1 : j < n
        · have hj1' : (j : Int) < (n : Int) := by omega
          have c1 := HM.out.row_at hlt (cellRow_len B n i)
          have c2 := HM.out.at_ hj1 hlt
          have hbd := bit_bd (B i j)
          have hpd := prev_bd (B i) j
          have hbp := bit_prev (B i) j
          have HR := hid (show runAt (B i) (j + 1) = if sameAt (B i) j then runAt (B i) j + 1 else 1 from rfl)
          have HP := hid (show penAt (B i) (j + 1) = if sameAt (B i) j then penAt (B i) j else penAt (B i) j + runPen (runAt (B i) j) from rfl)
          have HV := hid (show prevV (B i) (j + 1) = bitV (B i j) from rfl)
          rw [show cellV (B i j) = .int .i8 (bitV (B i j)) from rfl] at c2
          try simp only at hbp
          generalize prevV (B i) j = pv at *
          generalize bitV (B i j) = bv at *
          generalize penAt (B i) j = pn at *
          generalize runAt (B i) j = rn at *
          cases hs : sameAt (B i) j with
          | true =>
            rw [hs] at hbp
            rw [hs, if_pos rfl] at HR HP
            have he : bv = pv := by simpa using hbp
            clear hs hbp hpd
            subst he
            go_wp2_with fail
            go_roundw
            case rel => exact ⟨j + 1, by omega, by go_num, by rw [HR.out]; go_num, by rw [HV.out], by rw [HP.out], by first | rfl | trivial⟩
            case measure => simp [intOf]; omega
          | false =>
            rw [hs] at hbp
            rw [hs, if_neg (by simp)] at HR HP
            clear hs
            by_cases h5 : 5 ≤ rn
            · have h5' : (5 : Int) ≤ (rn : Int) := by omega
              have HRP := hid (show runPen rn = rn - 2 from by unfold runPen; rw [if_pos h5])
              go_wp2_with fail
              go_roundw
              case rel => exact ⟨j + 1, by omega, by go_num, by rw [HR.out]; go_num, by rw [HV.out], by rw [HP.out, HRP.out]; go_num, by first | rfl | trivial⟩
              case measure => simp [intOf]; omega
            · have h5' : ¬ (5 : Int) ≤ (rn : Int) := by omega
              have HRP := hid (show runPen rn = 0 from by unfold runPen; rw [if_neg h5])
              go_wp2_with fail
              go_roundw
              case rel => exact ⟨j + 1, by omega, by go_num, by rw [HR.out]; go_num, by rw [HV.out], by rw [HP.out, HRP.out]; go_num, by first | rfl | trivial⟩
              case measure => simp [intOf]; omega
        · obtain rfl : j = n := by omega
          have hj1' : ¬ (j : Int) < (j : Int) := by omega
          have HRP := hid (show rowPen (B i) j = penAt (B i) j + runPen (runAt (B i) j) from rfl)
          generalize prevV (B i) j = pv at *
          generalize penAt (B i) j = pn at *
          generalize runAt (B i) j = rn at *
          by_cases h5 : 5 ≤ rn
          · have h5' : (5 : Int) ≤ (rn : Int) := by omega
            have HRP2 := hid (show runPen rn = rn - 2 from by unfold runPen; rw [if_pos h5])
            go_wp2_with fail
            go_roundw
            case rel => exact ⟨i + 1, by omega, by go_num, by rw [HA.out, HRP.out, HRP2.out]; go_num, by first | rfl | trivial⟩
            case measure => simp [intOf]; omega
          · have h5' : ¬ (5 : Int) ≤ (rn : Int) := by omega
            have HRP2 := hid (show runPen rn = 0 from by unfold runPen; rw [if_neg h5])
            go_wp2_with fail
            go_roundw
            case rel => exact ⟨i + 1, by omega, by go_num, by rw [HA.out, HRP.out, HRP2.out]; go_num, by first | rfl | trivial⟩
            case measure => simp [intOf]; omega
    · obtain rfl : i = n := by omega
      have hlt' : ¬ (i : Int) < (i : Int) := by omega
      have HE := hid (rfl : allPen B i i = allPen B i i)
      generalize hP : allPen B i i = P at *
      go_wp2_with fail
      go_ret
      exact ⟨by first | rfl | rw [hP], by first | rfl | trivial⟩


set_option maxRecDepth 20000 in
set_option maxHeartbeats 4000000 in
theorem ruleCol (q G n : Nat) (gs : Nat → Nat) (B : Nat → Nat → Bool) (w : World) (h : BMat w q G n gs (cellRow B n)) (hn : n ≤ 40) :
    Calls Try.prog 51 #[.pointer (some ⟨q, 0, none⟩), .bool false] w fun e w' => e = .returned (.int .i64 (allPen (fun r c => B c r) n n : Nat)) ∧ w = w' := by
  have ga := getArray q G n w h.st
  have gw := getWidth q G n w h.st
  have gh := getHeight q G n w h.st
  have HM := hid h
  clear h
  go_enter Try.func51, Try.ntmps51
  go_wp2_with fail
  refine gw.mono ?_
  rintro e w1 ⟨rfl, rfl⟩
  go_wp2_with fail
  refine gh.mono ?_
  rintro e w1 ⟨rfl, rfl⟩
  go_wp2_with fail
  refine ga.mono ?_
  rintro e w1 ⟨rfl, rfl⟩
  clear ga gw gh
  go_wp2_with fail
  go_loopw [5, 9] (fun pv iv wr => ∃ i : Nat, i ≤ n ∧ iv = .int .i64 (i : Nat) ∧ pv = .int .i64 (allPen (fun r c => B c r) n i : Nat) ∧ w = wr) (fun _ iv _ => n - (intOf iv).toNat)
  case atStart => exact ⟨0, by omega, rfl, rfl, rfl⟩
  case round =>
    obtain ⟨i, hi, rfl, rfl, rfl⟩ := hrel
    have hal := allPen_le (fun r c => B c r) n i
    have hin : i * n ≤ 1600 := Nat.mul_le_mul (show i ≤ 40 by omega) hn
    by_cases hlt : i < n
    · have hlt' : (i : Int) < (n : Int) := by omega
      have HA := hid (show allPen (fun r c => B c r) n (i + 1) = allPen (fun r c => B c r) n i + rowPen (fun j => B j i) n from rfl)
      generalize allPen (fun r c => B c r) n i = P at *
      go_wp2_with fail
      go_loopw [5, 10, 11, 12] (fun pv nv qv jv wr => ∃ j : Nat, j ≤ n ∧ jv = .int .i64 (j : Nat) ∧ nv = .int .i64 (runAt (fun j => B j i) j : Nat) ∧ qv = .int .i64 (prevV (fun j => B j i) j) ∧ pv = .int .i64 (P + penAt (fun j => B j i) j : Nat) ∧ w = wr) (fun _ _ _ jv _ => n - (intOf jv).toNat)
      case atStart => exact ⟨0, by omega, rfl, rfl, rfl, rfl, rfl⟩
      case round =>
        obtain ⟨j, hj, rfl, rfl, rfl, rfl, rfl⟩ := hrel
        have hpr := pen_run_le (fun j => B j i) j
        by_cases hj1 : j < n
        · have hj1' : (j : Int) < (n : Int) := by omega
          have c1 := HM.out.row_at hj1 (cellRow_len B n j)
          have c2 := HM.out.at_ hlt hj1
          have hbd := bit_bd (B j i)
          have hpd := prev_bd (fun j => B j i) j
          have hbp := bit_prev (fun j => B j i) j
          have HR := hid (show runAt (fun j => B j i) (j + 1) = if sameAt (fun j => B j i) j then runAt (fun j => B j i) j + 1 else 1 from rfl)
          have HP := hid (show penAt (fun j => B j i) (j + 1) = if sameAt (fun j => B j i) j then penAt (fun j => B j i) j else penAt (fun j => B j i) j + runPen (runAt (fun j => B j i) j) from rfl)
          have HV := hid (show prevV (fun j => B j i) (j + 1) = bitV (B j i) from rfl)
          rw [show cellV (B j i) = .int .i8 (bitV (B j i)) from rfl] at c2
          try simp only at hbp
          generalize prevV (fun j => B j i) j = pv at *
          generalize bitV (B j i) = bv at *
          generalize penAt (fun j => B j i) j = pn at *
          generalize runAt (fun j => B j i) j = rn at *
          cases hs : sameAt (fun j => B j i) j with
          | true =>
            rw [hs] at hbp
            rw [hs, if_pos rfl] at HR HP
            have he : bv = pv := by simpa using hbp
            clear hs hbp hpd
            subst he
            go_wp2_with fail
            go_roundw
            case rel => exact ⟨j + 1, by omega, by go_num, by rw [HR.out]; go_num, by rw [HV.out], by rw [HP.out], by first | rfl | trivial⟩
            case measure => simp [intOf]; omega
          | false =>
            rw [hs] at hbp
            rw [hs, if_neg (by simp)] at HR HP
            clear hs
            by_cases h5 : 5 ≤ rn
            · have h5' : (5 : Int) ≤ (rn : Int) := by omega
              have HRP := hid (show runPen rn = rn - 2 from by unfold runPen; rw [if_pos h5])
              go_wp2_with fail
              go_roundw
              case rel => exact ⟨j + 1, by omega, by go_num, by rw [HR.out]; go_num, by rw [HV.out], by rw [HP.out, HRP.out]; go_num, by first | rfl | trivial⟩
              case measure => simp [intOf]; omega
            · have h5' : ¬ (5 : Int) ≤ (rn : Int) := by omega
              have HRP := hid (show runPen rn = 0 from by unfold runPen; rw [if_neg h5])
              go_wp2_with fail
              go_roundw
              case rel => exact ⟨j + 1, by omega, by go_num, by rw [HR.out]; go_num, by rw [HV.out], by rw [HP.out, HRP.out]; go_num, by first | rfl | trivial⟩
              case measure => simp [intOf]; omega
        · obtain rfl : j = n := by omega
          have hj1' : ¬ (j : Int) < (j : Int) := by omega
          have HRP := hid (show rowPen (fun j => B j i) j = penAt (fun j => B j i) j + runPen (runAt (fun j => B j i) j) from rfl)
          generalize prevV (fun j => B j i) j = pv at *
          generalize penAt (fun j => B j i) j = pn at *
          generalize runAt (fun j => B j i) j = rn at *
          by_cases h5 : 5 ≤ rn
          · have h5' : (5 : Int) ≤ (rn : Int) := by omega
            have HRP2 := hid (show runPen rn = rn - 2 from by unfold runPen; rw [if_pos h5])
            go_wp2_with fail
            go_roundw
            case rel => exact ⟨i + 1, by omega, by go_num, by rw [HA.out, HRP.out, HRP2.out]; go_num, by first | rfl | trivial⟩
            case measure => simp [intOf]; omega
          · have h5' : ¬ (5 : Int) ≤ (rn : Int) := by omega
            have HRP2 := hid (show runPen rn = 0 from by unfold runPen; rw [if_neg h5])
            go_wp2_with fail
            go_roundw
            case rel => exact ⟨i + 1, by omega, by go_num, by rw [HA.out, HRP.out, HRP2.out]; go_num, by first | rfl | trivial⟩
            case measure => simp [intOf]; omega
    · obtain rfl : i = n := by omega
      have hlt' : ¬ (i : Int) < (i : Int) := by omega
      have HE := hid (rfl : allPen (fun r c => B c r) i i = allPen (fun r c => B c r) i i)
      generalize hP : allPen (fun r c => B c r) i i = P at *
      go_wp2_with fail
      go_ret
      exact ⟨by first | rfl | rw [hP], by first | rfl | trivial⟩


theorem rule1 (q G n : Nat) (gs : Nat → Nat) (B : Nat → Nat → Bool) (w : World) (h : BMat w q G n gs (cellRow B n)) (hn1 : 1 ≤ n) (hn : n ≤ 40) :
    Calls Try.prog 37 #[.pointer (some ⟨q, 0, none⟩)] w fun e w' => e = .returned (.int .i64 (allPen B n n + allPen (fun r c => B c r) n n : Nat)) ∧ w = w' := by
  have h1 := ruleRow q G n gs B w h hn
  have h2 := ruleCol q G n gs B w h hn
  have l1 := allPen_le B n n
  have l2 := allPen_le (fun r c => B c r) n n
  have hT1 : n * n ≤ 1600 := Nat.mul_le_mul hn hn
  clear h
  generalize allPen B n n = a at *
  generalize allPen (fun r c => B c r) n n = b at *
  go_enter Try.func37, Try.ntmps37
  go_wp2_with fail
  refine h1.mono ?_
  rintro e w1 ⟨rfl, rfl⟩
  go_wp2_with fail
  refine h2.mono ?_
  rintro e w1 ⟨rfl, rfl⟩
  go_wp2_with fail
  go_ret
  exact ⟨by first | rfl | go_num, rfl⟩
end Go.Proofs.Ytjgckbccbambmaa
