/- QR codes: spec.QRCenters, qrFormatAt, qrAlign, qrGiven. -/
import Derived.Test.YtpffffhgmhpkiaaQaA
namespace Go.Proofs.Ytpffffhgmhpkiaa
open Go.RowKit
set_option linter.unusedVariables false

/-- Which bit of the format stands at a module. -/
def FmtIs (n r c : Nat) (z : Int) : Prop :=
  (c = 8 ∧ r ≤ 5 ∧ z = r) ∨ (c = 8 ∧ r = 7 ∧ z = 6) ∨ (c = 8 ∧ r = 8 ∧ z = 7) ∨ (r = 8 ∧ c = 7 ∧ z = 8) ∨ (r = 8 ∧ c ≤ 5 ∧ z = 14 - (c : Int)) ∨ (r = 8 ∧ n ≤ c + 8 ∧ z = (n : Int) - 1 - c) ∨ (c = 8 ∧ n ≤ r + 7 ∧ z = (r : Int) - n + 15) ∨
  (z = -1 ∧ ¬ (c = 8 ∧ (r ≤ 5 ∨ r = 7 ∨ r = 8 ∨ n ≤ r + 7)) ∧ ¬ (r = 8 ∧ (c = 7 ∨ c ≤ 5 ∨ n ≤ c + 8)))
theorem fmt_p1 {n r c i : Nat} {z : Int} (h : FmtIs n r c z) (hn : 21 ≤ n) (hi : i < 15) (h1 : (p1 i).1 = r) (h2 : (p1 i).2 = c) : z = i := by
  subst h1 h2
  revert h
  unfold FmtIs p1
  repeat' split
  all_goals (dsimp only; intro h; omega)
theorem fmt_p2 {n r c i : Nat} {z : Int} (h : FmtIs n r c z) (hn : 21 ≤ n) (hi : i < 15) (h1 : (p2 n i).1 = r) (h2 : (p2 n i).2 = c) : z = i := by
  subst h1 h2
  revert h
  unfold FmtIs p2
  repeat' split
  all_goals (dsimp only; intro h; omega)
theorem fmt_pv {n r c i : Nat} {z : Int} (h : FmtIs n r c z) (hn : 45 ≤ n) (hi : i < 18) (h1 : (pv n i).1 = r) (h2 : (pv n i).2 = c) : z = -1 := by
  subst h1 h2
  revert h
  unfold FmtIs pv
  dsimp only; intro h; omega
def FmtOut (n r c : Nat) (w : World) (e : Ending) (w' : World) : Prop := ∃ z : Int, e = .returned (.int .i64 z) ∧ FmtIs n r c z ∧ w = w'
set_option maxRecDepth 20000 in
set_option maxHeartbeats 4000000 in
theorem fmtAtQ (n r c : Nat) (hn : 21 ≤ n) (hn2 : n ≤ 177) (hr : r < n) (hc : c < n) (w : World) : Calls Try.prog 108 #[.int .i64 n, .int .i64 r, .int .i64 c] w (FmtOut n r c w) := by
  by_cases h1 : c = 8
  · subst h1
    by_cases h2 : r ≤ 5
    · have h2' : (r : Int) ≤ 5 := by omega
      go_enter Try.func108, Try.ntmps108
      go_wp2_with fail
      go_ret
      exact ⟨_, rfl, by unfold FmtIs; omega, rfl⟩
    have h2' : ¬ (r : Int) ≤ 5 := by omega
    by_cases h3 : r = 7
    · subst h3
      go_enter Try.func108, Try.ntmps108
      go_wp2_with fail
      go_ret
      exact ⟨_, rfl, by unfold FmtIs; omega, rfl⟩
    have h3' : ¬ (r : Int) = 7 := by omega
    by_cases h4 : r = 8
    · subst h4
      go_enter Try.func108, Try.ntmps108
      go_wp2_with fail
      go_ret
      exact ⟨_, rfl, by unfold FmtIs; omega, rfl⟩
    have h4' : ¬ (r : Int) = 8 := by omega
    by_cases h5 : n ≤ r + 7
    · have h5' : (n : Int) - 7 ≤ (r : Int) := by omega
      go_enter Try.func108, Try.ntmps108
      go_wp2_with fail
      go_ret
      exact ⟨_, rfl, by unfold FmtIs; omega, rfl⟩
    · have h5' : ¬ (n : Int) - 7 ≤ (r : Int) := by omega
      go_enter Try.func108, Try.ntmps108
      go_wp2_with fail
      go_ret
      exact ⟨_, rfl, by unfold FmtIs; omega, rfl⟩
  · have h1' : ¬ (c : Int) = 8 := by omega
    by_cases h4 : r = 8
    · subst h4
      by_cases h5 : c = 7
      · subst h5
        go_enter Try.func108, Try.ntmps108
        go_wp2_with fail
        go_ret
        exact ⟨_, rfl, by unfold FmtIs; omega, rfl⟩
      have h5' : ¬ (c : Int) = 7 := by omega
      by_cases h6 : c ≤ 5
      · have h6' : (c : Int) ≤ 5 := by omega
        go_enter Try.func108, Try.ntmps108
        go_wp2_with fail
        go_ret
        exact ⟨_, rfl, by unfold FmtIs; omega, rfl⟩
      have h6' : ¬ (c : Int) ≤ 5 := by omega
      by_cases h7 : n ≤ c + 8
      · have h7' : (n : Int) - 8 ≤ (c : Int) := by omega
        go_enter Try.func108, Try.ntmps108
        go_wp2_with fail
        go_ret
        exact ⟨_, rfl, by unfold FmtIs; omega, rfl⟩
      · have h7' : ¬ (n : Int) - 8 ≤ (c : Int) := by omega
        go_enter Try.func108, Try.ntmps108
        go_wp2_with fail
        go_ret
        exact ⟨_, rfl, by unfold FmtIs; omega, rfl⟩
    · have h4' : ¬ (r : Int) = 8 := by omega
      go_enter Try.func108, Try.ntmps108
      go_wp2_with fail
      go_ret
      exact ⟨_, rfl, by unfold FmtIs; omega, rfl⟩

/-- Whether an alignment pattern stands at a module. -/
def skipA (v i k : Nat) : Bool := decide (i = 0 ∧ (k = 0 ∨ k + 1 = cmany v)) || decide (i + 1 = cmany v ∧ k = 0)
def nearA (v r c i k : Nat) : Bool := !skipA v i k && decide (r ≤ cen v i + 2 ∧ cen v i ≤ r + 2 ∧ c ≤ cen v k + 2 ∧ cen v k ≤ c + 2)
def alB (v r c : Nat) : Bool := (List.range (cmany v)).any fun i => (List.range (cmany v)).any fun k => nearA v r c i k
theorem alB_false {v r c : Nat} (h : ∀ i, i < cmany v → ∀ k, k < cmany v → nearA v r c i k = false) : alB v r c = false := by
  unfold alB
  rw [List.any_eq_false]
  intro i hi
  simp only [Bool.not_eq_true]
  rw [List.any_eq_false]
  intro k hk
  rw [h i (List.mem_range.1 hi) k (List.mem_range.1 hk)]
  simp
theorem alB_true {v r c i k : Nat} (hi : i < cmany v) (hk : k < cmany v) (h : nearA v r c i k = true) : alB v r c = true := by
  unfold alB
  rw [List.any_eq_true]
  refine ⟨i, List.mem_range.2 hi, ?_⟩
  rw [List.any_eq_true]
  exact ⟨k, List.mem_range.2 hk, h⟩
theorem cen_le (v i : Nat) (h2 : v ≤ 40) : cen v i ≤ 170 := by unfold cen; split <;> omega
/-- The middles, as they lie in memory. -/
def cenV (v : Nat) : List Value := (cenL v).map fun (x : Nat) => Value.int .i64 x
theorem cenV_len (v : Nat) : (cenV v).length = cmany v := by simp [cenV, cenL]
theorem rd_cen {w : World} {A : Option Addr} {v m : Nat} (h : Rd w A m (cenV v)) (hm : m = cmany v) (k : Nat) (hk : k < m) : ∃ b o, A = some ⟨b, o, none⟩ ∧ b < w.heap.size ∧ w.cell? ⟨b, o + k, none⟩ = some (.int .i64 (cen v k : Nat)) := by
  obtain ⟨b, o, h1, h2, h3⟩ := h.2 (by omega)
  refine ⟨b, o, h1, h2, ?_⟩
  rw [h3 k (by rw [cenV_len]; omega)]
  simp [cenV, cenL]
def AlOut (v r c : Nat) (w : World) (e : Ending) (w' : World) : Prop := ∃ z : Int, e = .returned (.int .i64 z) ∧ -1 ≤ z ∧ z ≤ 2 ∧ (0 ≤ z ↔ alB v r c = true) ∧ w = w'
set_option maxRecDepth 20000 in
set_option maxHeartbeats 8000000 in
theorem alignQ (v r c m cp : Nat) (A : Option Addr) (w : World) (h1 : 1 ≤ v) (h2 : v ≤ 40) (hm : m = cmany v) (hR : Rd w A m (cenV v)) (hr : r < 177) (hc : c < 177) :
    Calls Try.prog 107 #[.slice A m cp, .int .i64 r, .int .i64 c] w (AlOut v r c w) := by
  obtain ⟨_, _, hm7⟩ := room_ok v h1 h2
  have hm2 : 2 ≤ m ∨ m = 0 := by rw [hm]; unfold cmany; split <;> omega
  rw [← hm] at hm7
  have HR := hid hR
  have HM := hid hm
  have FQ := hid (fun (a b : Nat) (ha : a ≤ 170) (hb : b ≤ 170) W => farQ r c a b (by omega) (by omega) (by omega) (by omega) (by omega) (by omega) (by omega) (by omega) W)
  have HC := hid (fun i => cen_le v i h2)
  clear hR hm
  go_enter Try.func107, Try.ntmps107
  go_wp2_with fail
  go_loopw [18] (fun iv wr => ∃ i : Nat, i ≤ m ∧ iv = .int .i64 (i : Nat) ∧ Hid (∀ i', i' < i → ∀ k, k < m → nearA v r c i' k = false) ∧ w = wr) (fun iv _ => m - (intOf iv).toNat)
  case atStart => exact ⟨0, by omega, rfl, hid (fun i' hi' => by omega), rfl⟩
  case round =>
    obtain ⟨i, hi, rfl, hN, rfl⟩ := hrel
    by_cases hlt : i < m
    · have hlt' : (i : Int) < (m : Int) := by omega
      obtain ⟨b, o, hA, hb, hce⟩ := rd_cen HR.out HM.out i hlt
      subst hA
      have hcl := HC.out i
      obtain ⟨a, ha⟩ : ∃ a, a = cen v i := ⟨_, rfl⟩
      rw [← ha] at hce hcl
      have HA := hid ha
      have hstep : (∀ k, k < m → nearA v r c i k = false) → ∀ i', i' < i + 1 → ∀ k, k < m → nearA v r c i' k = false := fun hh i' hi' k hk => by
        rcases Nat.lt_or_ge i' i with h | h
        · exact hN.out i' h k hk
        · obtain rfl : i' = i := by omega
          exact hh k hk
      have HSTEP := hid hstep
      clear ha hstep
      by_cases hout : r + 2 < a ∨ a + 2 < r
      · have hnone : ∀ k, k < m → nearA v r c i k = false := fun k hk => by
          unfold nearA
          rw [← HA.out, Bool.and_eq_false_iff]
          right
          simp only [decide_eq_false_iff_not]
          omega
        have HNONE := hid hnone
        clear hnone
        rcases hout with hout | hout
        · have q1 : (r : Int) < (a : Int) - 2 := by omega
          go_wp2_with fail
          go_roundw
          case rel => exact ⟨i + 1, by omega, by go_num, hid (HSTEP.out HNONE.out), by first | rfl | trivial⟩
          case measure => simp [intOf]; omega
        · have q1 : ¬ (r : Int) < (a : Int) - 2 := by omega
          have q2 : (a : Int) + 2 < (r : Int) := by omega
          go_wp2_with fail
          go_roundw
          case rel => exact ⟨i + 1, by omega, by go_num, hid (HSTEP.out HNONE.out), by first | rfl | trivial⟩
          case measure => simp [intOf]; omega
      · have q1 : ¬ (r : Int) < (a : Int) - 2 := by omega
        have q2 : ¬ (a : Int) + 2 < (r : Int) := by omega
        go_wp2_with fail
        go_loopw [35] (fun kv wr => ∃ k : Nat, k ≤ m ∧ kv = .int .i64 (k : Nat) ∧ Hid (∀ k', k' < k → nearA v r c i k' = false) ∧ w = wr) (fun kv _ => m - (intOf kv).toNat)
        case atStart => exact ⟨0, by omega, rfl, hid (fun i' hi' => by omega), rfl⟩
        case round =>
          obtain ⟨k, hk, rfl, hN2, rfl⟩ := hrel
          by_cases hlt2 : k < m
          · have hlt2' : (k : Int) < (m : Int) := by omega
            obtain ⟨b3, o3, hA3, hb3, hce3⟩ := rd_cen HR.out HM.out k hlt2
            injection hA3 with hA3
            injection hA3 with e1 e2 _
            subst e1 e2
            have hdl := HC.out k
            obtain ⟨d, hd⟩ : ∃ d, d = cen v k := ⟨_, rfl⟩
            rw [← hd] at hce3 hdl
            have HD := hid hd
            clear hd
            have HST2 := hid (fun (hh : nearA v r c i k = false) k' (hk' : k' < k + 1) => show nearA v r c i k' = false from by
              rcases Nat.lt_or_ge k' k with h | h
              · exact hN2.out k' h
              · obtain rfl : k' = k := by omega
                exact hh)
            by_cases c1 : i = 0
            · by_cases c2 : k = 0
              · obtain rfl : i = 0 := c1
                simp only [Nat.add_zero] at hce
                obtain rfl : k = 0 := c2
                simp only [Nat.add_zero] at hce3
                have hsk : nearA v r c 0 0 = false := by unfold nearA skipA; rw [← HM.out, Bool.and_eq_false_iff]; left; simp; try omega
                have HSK := hid hsk
                clear hsk
                go_wp2_with fail
                go_roundw
                case rel => first | exact ⟨0 + 1, by omega, by go_num, hid (HST2.out HSK.out), by first | rfl | trivial⟩ | exact ⟨_, _, _, _, _, ⟨0 + 1, by omega, by go_num, hid (HST2.out HSK.out)⟩, rfl, rfl, rfl, rfl, by first | rfl | go_num⟩ | ((repeat apply Exists.intro); exact ⟨⟨k + 1, by omega, rfl, hid (HST2.out HNA.out), trivial⟩, rfl⟩)
                case measure => simp [intOf]; try omega
              by_cases c3 : k + 1 = m
              · obtain rfl : i = 0 := c1
                simp only [Nat.add_zero] at hce
                obtain rfl : m = k + 1 := c3.symm
                have g2 : ¬ (k : Int) = 0 := by omega
                clear c2
                have hsk : nearA v r c 0 k = false := by unfold nearA skipA; rw [← HM.out, Bool.and_eq_false_iff]; left; simp; try omega
                have HSK := hid hsk
                clear hsk
                go_wp2_with fail
                go_roundw
                case rel => first | exact ⟨k + 1, by omega, by go_num, hid (HST2.out HSK.out), by first | rfl | trivial⟩ | exact ⟨_, _, _, _, _, ⟨k + 1, by omega, by go_num, hid (HST2.out HSK.out)⟩, rfl, rfl, rfl, rfl, by first | rfl | go_num⟩ | ((repeat apply Exists.intro); exact ⟨⟨k + 1, by omega, rfl, hid (HST2.out HNA.out), trivial⟩, rfl⟩)
                case measure => simp [intOf]; try omega
              · obtain rfl : i = 0 := c1
                simp only [Nat.add_zero] at hce
                have g2 : ¬ (k : Int) = 0 := by omega
                have g3 : ¬ (k : Int) = (m : Int) - 1 := by omega
                have g4 : ¬ (0 : Int) = (m : Int) - 1 := by omega
                clear c2 c3
                have hsk : skipA v 0 k = false := by unfold skipA; rw [← HM.out]; simp; try omega
                have HSK := hid hsk
                clear hsk
                go_wp2_with fail
                · exfalso; simp only [beq_iff_eq] at *; omega
                refine (FQ.out a d hcl hdl _).mono ?_
                rintro e w5 ⟨f, rfl, f0, f1, f2, f3, f4, f5, f6, rfl⟩
                by_cases hf : f ≤ 2
                · have hal : alB v r c = true := alB_true (i := 0) (k := k) (by rw [← HM.out]; exact hlt) (by rw [← HM.out]; exact hlt2) (by unfold nearA; rw [HSK.out, ← HA.out, ← HD.out]; simp; omega)
                  have HAL := hid hal
                  clear hal f2 f3 f4 f5 f6
                  go_wp2_with fail
                  go_ret
                  exact ⟨f, rfl, by omega, by omega, ⟨fun _ => HAL.out, fun _ => f0⟩, rfl⟩
                · have hna : nearA v r c 0 k = false := by unfold nearA; rw [← HA.out, ← HD.out, Bool.and_eq_false_iff]; right; simp only [decide_eq_false_iff_not]; omega
                  have HNA := hid hna
                  clear hna f2 f3 f4 f5 f6
                  go_wp2_with fail
                  go_roundw
                  case rel => first | exact ⟨k + 1, by omega, by go_num, hid (HST2.out HNA.out), by first | rfl | trivial⟩ | exact ⟨_, _, _, _, _, ⟨k + 1, by omega, by go_num, hid (HST2.out HNA.out)⟩, rfl, rfl, rfl, rfl, by first | rfl | go_num⟩ | ((repeat apply Exists.intro); exact ⟨⟨k + 1, by omega, rfl, hid (HST2.out HNA.out), trivial⟩, rfl⟩)
                  case measure => simp [intOf]; try omega
            by_cases c4 : i + 1 = m
            · by_cases c2 : k = 0
              · obtain rfl : k = 0 := c2
                simp only [Nat.add_zero] at hce3
                obtain rfl : m = i + 1 := c4.symm
                have g1 : ¬ (i : Int) = 0 := by omega
                clear c1
                have hsk : nearA v r c i 0 = false := by unfold nearA skipA; rw [← HM.out, Bool.and_eq_false_iff]; left; simp; try omega
                have HSK := hid hsk
                clear hsk
                go_wp2_with fail
                go_roundw
                case rel => first | exact ⟨0 + 1, by omega, by go_num, hid (HST2.out HSK.out), by first | rfl | trivial⟩ | exact ⟨_, _, _, _, _, ⟨0 + 1, by omega, by go_num, hid (HST2.out HSK.out)⟩, rfl, rfl, rfl, rfl, by first | rfl | go_num⟩ | ((repeat apply Exists.intro); exact ⟨⟨k + 1, by omega, rfl, hid (HST2.out HNA.out), trivial⟩, rfl⟩)
                case measure => simp [intOf]; try omega
              · obtain rfl : m = i + 1 := c4.symm
                have g1 : ¬ (i : Int) = 0 := by omega
                have g2 : ¬ (k : Int) = 0 := by omega
                have hsk : skipA v i k = false := by unfold skipA; rw [← HM.out]; simp; try omega
                have HSK := hid hsk
                clear hsk c1 c2
                go_wp2_with fail
                refine (FQ.out a d hcl hdl _).mono ?_
                rintro e w5 ⟨f, rfl, f0, f1, f2, f3, f4, f5, f6, rfl⟩
                by_cases hf : f ≤ 2
                · have hal : alB v r c = true := alB_true (i := i) (k := k) (by rw [← HM.out]; exact hlt) (by rw [← HM.out]; exact hlt2) (by unfold nearA; rw [HSK.out, ← HA.out, ← HD.out]; simp; omega)
                  have HAL := hid hal
                  clear hal f2 f3 f4 f5 f6
                  go_wp2_with fail
                  go_ret
                  exact ⟨f, rfl, by omega, by omega, ⟨fun _ => HAL.out, fun _ => f0⟩, rfl⟩
                · have hna : nearA v r c i k = false := by unfold nearA; rw [← HA.out, ← HD.out, Bool.and_eq_false_iff]; right; simp only [decide_eq_false_iff_not]; omega
                  have HNA := hid hna
                  clear hna f2 f3 f4 f5 f6
                  go_wp2_with fail
                  go_roundw
                  case rel => first | exact ⟨k + 1, by omega, by go_num, hid (HST2.out HNA.out), by first | rfl | trivial⟩ | exact ⟨_, _, _, _, _, ⟨k + 1, by omega, by go_num, hid (HST2.out HNA.out)⟩, rfl, rfl, rfl, rfl, by first | rfl | go_num⟩ | ((repeat apply Exists.intro); exact ⟨⟨k + 1, by omega, rfl, hid (HST2.out HNA.out), trivial⟩, rfl⟩) | ((repeat apply Exists.intro); refine ⟨⟨k + 1, by omega, rfl, hid (HST2.out HNA.out), trivial⟩, ?_⟩; rw [show (((i + 1 : Nat) : Int) - 1) = (i : Int) by omega]; rfl)
                  case measure => simp [intOf]; try omega
            · have g1 : ¬ (i : Int) = 0 := by omega
              have g4 : ¬ (i : Int) = (m : Int) - 1 := by omega
              clear c1 c4
              have hsk : skipA v i k = false := by unfold skipA; rw [← HM.out]; simp; try omega
              have HSK := hid hsk
              clear hsk
              go_wp2_with fail
              refine (FQ.out a d hcl hdl _).mono ?_
              rintro e w5 ⟨f, rfl, f0, f1, f2, f3, f4, f5, f6, rfl⟩
              by_cases hf : f ≤ 2
              · have hal : alB v r c = true := alB_true (i := i) (k := k) (by rw [← HM.out]; exact hlt) (by rw [← HM.out]; exact hlt2) (by unfold nearA; rw [HSK.out, ← HA.out, ← HD.out]; simp; omega)
                have HAL := hid hal
                clear hal f2 f3 f4 f5 f6
                go_wp2_with fail
                go_ret
                exact ⟨f, rfl, by omega, by omega, ⟨fun _ => HAL.out, fun _ => f0⟩, rfl⟩
              · have hna : nearA v r c i k = false := by unfold nearA; rw [← HA.out, ← HD.out, Bool.and_eq_false_iff]; right; simp only [decide_eq_false_iff_not]; omega
                have HNA := hid hna
                clear hna f2 f3 f4 f5 f6
                go_wp2_with fail
                go_roundw
                case rel => first | exact ⟨k + 1, by omega, by go_num, hid (HST2.out HNA.out), by first | rfl | trivial⟩ | exact ⟨_, _, _, _, _, ⟨k + 1, by omega, by go_num, hid (HST2.out HNA.out)⟩, rfl, rfl, rfl, rfl, by first | rfl | go_num⟩ | ((repeat apply Exists.intro); exact ⟨⟨k + 1, by omega, rfl, hid (HST2.out HNA.out), trivial⟩, rfl⟩)
                case measure => simp [intOf]; try omega
          · obtain rfl : k = m := by omega
            have hlt2' : ¬ (k : Int) < (k : Int) := by omega
            go_wp2_with fail
            go_roundw
            case rel => exact ⟨i + 1, by omega, by go_num, hid (HSTEP.out hN2.out), by first | rfl | trivial⟩
            case measure => simp [intOf]; omega
    · obtain rfl : i = m := by omega
      have hlt' : ¬ (i : Int) < (i : Int) := by omega
      go_wp2_with fail
      go_ret
      refine ⟨-1, rfl, by omega, by omega, ?_, rfl⟩
      rw [alB_false (by rw [← HM.out]; exact hN.out)]
      simp
end Go.Proofs.Ytpffffhgmhpkiaa
