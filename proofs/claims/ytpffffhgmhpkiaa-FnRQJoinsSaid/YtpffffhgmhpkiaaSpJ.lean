/- QR codes: spec.QRAlpha, QRAlphaByte, QRCountBits. -/
import Derived.Test.YtpffffhgmhpkiaaSpE
namespace Go.Proofs.Ytpffffhgmhpkiaa
open Go.RowKit
set_option linter.unusedVariables false
set_option linter.unusedSimpArgs false

def alphI (c : Nat) : Int := if alph c < 45 then (alph c : Int) else -1
def tab9 : List Nat := [32, 36, 37, 42, 43, 45, 46, 47, 58]
theorem alph_dig : ∀ c, c < 256 → 48 ≤ c → c ≤ 57 → alph c = c - 48 := by decide +kernel
theorem alph_let : ∀ c, c < 256 → 65 ≤ c → c ≤ 90 → alph c = c - 65 + 10 := by decide +kernel
theorem alph_tab : ∀ i, i < 9 → alph (tab9.getD i 0) = 36 + i := by decide +kernel
theorem alph_no : ∀ c, c < 256 → ¬ (48 ≤ c ∧ c ≤ 57) → ¬ (65 ≤ c ∧ c ≤ 90) → (∀ i, i < 9 → tab9.getD i 0 ≠ c) → alph c = 45 := by decide +kernel
theorem alph_in : ∀ n, n < 45 → alph (alphL.getD n 0) = n ∧ 32 ≤ alphL.getD n 0 ∧ alphL.getD n 0 ≤ 90 := by decide +kernel
set_option maxRecDepth 20000 in
set_option maxHeartbeats 4000000 in
theorem alphaQ (c : Nat) (hc : c < 256) (w : World) : Calls Try.prog 74 #[.int .u8 c] w fun e w' => e = .returned (.int .i64 (alphI c)) ∧ w = w' := by
  by_cases h1 : 48 ≤ c ∧ c ≤ 57
  · have e : alphI c = (c : Int) - 48 := by unfold alphI; rw [alph_dig c hc h1.1 h1.2, if_pos (by omega)]; omega
    obtain ⟨d1, d2⟩ := h1
    rw [e]
    clear e
    go_enter Try.func74, Try.ntmps74
    go_wp2_with fail
    go_ret
    exact ⟨by congr 1, rfl⟩
  by_cases h2 : 65 ≤ c ∧ c ≤ 90
  · have e : alphI c = (c : Int) - 65 + 10 := by unfold alphI; rw [alph_let c hc h2.1 h2.2, if_pos (by omega)]; omega
    obtain ⟨d1, d2⟩ := h2
    rw [e]
    clear e h1
    have d3 : ¬ (c : Int) ≤ 57 := by omega
    go_enter Try.func74, Try.ntmps74
    go_wp2_with fail
    go_ret
    exact ⟨by congr 1, rfl⟩
  have hno := alph_no c hc h1 h2
  have HNO := hid hno
  have HT := hid (fun i (hi : i < 9) (e : tab9.getD i 0 = c) => show alphI c = 36 + (i : Int) from by unfold alphI; rw [← e, alph_tab i hi, if_pos (by omega)]; omega)
  have HN := hid (fun (h : ∀ i, i < 9 → tab9.getD i 0 ≠ c) => show alphI c = -1 from by unfold alphI; rw [HNO.out h, if_neg (by omega)])
  have IX := hid (fun (i : Nat) (hi : i < 9) (w : World) => show (Instr.index 185 (.agg #[.int .u8 32, .int .u8 36, .int .u8 37, .int .u8 42, .int .u8 43, .int .u8 45, .int .u8 46, .int .u8 47, .int .u8 58]) (.int .i64 (i : Nat))).run Try.prog w = .ok (.int .u8 (tab9.getD i 0 : Nat)) w from by
    obtain rfl | rfl | rfl | rfl | rfl | rfl | rfl | rfl | rfl : i = 0 ∨ i = 1 ∨ i = 2 ∨ i = 3 ∨ i = 4 ∨ i = 5 ∨ i = 6 ∨ i = 7 ∨ i = 8 := by omega
    all_goals kernel_rfl)
  generalize alphI c = A at *
  clear hno
  have t : c < 48 ∨ (57 < c ∧ c < 65) ∨ 90 < c := by omega
  clear h1 h2
  rcases t with t1 | ⟨t1, t2⟩ | t1
  all_goals (
    go_enter Try.func74, Try.ntmps74
    go_wp2_with fail
    go_loopw [27] (fun iv wr => ∃ i : Nat, i ≤ 9 ∧ iv = .int .i64 (i : Nat) ∧ Hid (∀ j, j < i → tab9.getD j 0 ≠ c) ∧ w = wr) (fun iv _ => 9 - (intOf iv).toNat)
    case atStart => exact ⟨0, by omega, rfl, hid (fun j hj => by omega), rfl⟩
    case round =>
      obtain ⟨i, hi, rfl, HJ, rfl⟩ := hrel
      by_cases hlt : i < 9
      · have hlt' : (i : Int) < 9 := by omega
        have hix := IX.out i hlt
        have HTi := hid (HT.out i hlt)
        have HJ2 := hid (fun (h : tab9.getD i 0 ≠ c) => show ∀ j, j < i + 1 → tab9.getD j 0 ≠ c from fun j hj => by
          by_cases hji : j = i
          · rw [hji]; exact h
          · exact HJ.out j (by omega))
        generalize tab9.getD i 0 = x at *
        by_cases hx : x = c
        · subst hx
          have HA := hid (HTi.out rfl)
          go_wp2_with fail
          go_ret
          exact ⟨by rw [HA.out]; rfl, rfl⟩
        · have hx' : ((c : Int) == (x : Int)) = false := by simp; omega
          have HX := hid hx
          clear hx
          go_wp2_with fail
          go_roundw
          case rel => first | exact ⟨i + 1, by omega, by go_num, hid (HJ2.out HX.out), by first | rfl | trivial⟩ | ((repeat apply Exists.intro); exact ⟨⟨i + 1, by omega, rfl, hid (HJ2.out HX.out), by first | rfl | trivial⟩, rfl⟩)
          case measure => first | (simp [intOf]; done) | (simp [intOf]; omega)
      · obtain rfl : i = 9 := by omega
        have hlt' : ¬ ((9 : Nat) : Int) < 9 := by omega
        have HA := hid (HN.out HJ.out)
        go_wp2_with fail
        go_ret
        exact ⟨by rw [HA.out]; rfl, rfl⟩)
set_option maxRecDepth 20000 in
set_option maxHeartbeats 4000000 in
theorem alphaByteQ (n : Nat) (hn : n < 45) (w : World) : Calls Try.prog 46 #[.int .i64 n] w fun e w' => e = .returned (.int .u8 (alphL.getD n 0 : Nat)) ∧ w = w' := by
  obtain ⟨y1, y2, y3⟩ := alph_in n hn
  have HY := hid (fun b (hb : b < 256) (h : alphI b = (n : Int)) => show b = alphL.getD n 0 from by
    unfold alphI at h
    by_cases h45 : alph b < 45
    · rw [if_pos h45] at h
      have := alph_back b hb h45
      rw [← this]; congr 1; omega
    · rw [if_neg h45] at h; omega)
  have HN := hid (show alphI (alphL.getD n 0) = (n : Int) from by unfold alphI; rw [y1, if_pos hn])
  have AQ := hid (fun b (hb : b < 256) W => alphaQ b hb W)
  generalize alphL.getD n 0 = y at *
  clear y1
  go_enter Try.func46, Try.ntmps46
  go_wp2_with fail
  go_loopw [3] (fun bv wr => ∃ b : Nat, 32 ≤ b ∧ b ≤ y ∧ bv = .int .u8 (b : Nat) ∧ w = wr) (fun bv _ => 91 - (intOf bv).toNat)
  case atStart => exact ⟨32, by omega, by omega, rfl, rfl⟩
  case round =>
    obtain ⟨b, hb1, hb2, rfl, rfl⟩ := hrel
    have hb90 : (b : Int) ≤ 90 := by omega
    have aq := fun W => AQ.out b (by omega) W
    have HYb := hid (fun h => HY.out b (by omega) h)
    by_cases hby : b = y
    · subst hby
      have hn2 := HN.out
      rw [hn2] at aq
      clear hn2
      go_wp2_with fail
      refine (aq _).mono ?_
      rintro e w1 ⟨rfl, rfl⟩
      go_wp2_with fail
      go_ret
      exact ⟨rfl, rfl⟩
    · have hne : ¬ alphI b = (n : Int) := fun h => hby (HYb.out h)
      generalize alphI b = z at *
      have hz : (z == (n : Int)) = false := by simpa using hne
      clear hne
      go_wp2_with fail
      refine (aq _).mono ?_
      rintro e w1 ⟨rfl, rfl⟩
      go_wp2_with fail
      go_roundw
      case rel => first | exact ⟨b + 1, by omega, by omega, by go_num, by first | rfl | trivial⟩ | ((repeat apply Exists.intro); exact ⟨⟨b + 1, by omega, by omega, rfl, by first | rfl | trivial⟩, rfl⟩)
      case measure => first | (simp [intOf]; done) | (simp [intOf]; omega)
set_option maxRecDepth 20000 in
set_option maxHeartbeats 4000000 in
theorem cntBitsQ (m v : Nat) (h : IsMode m) (hv : v ≤ 40) (w : World) : Calls Try.prog 75 #[.int .i64 m, .int .i64 v] w fun e w' => e = .returned (.tuple #[.int .i64 (cntB m v : Nat), .bool true]) ∧ Below w.heap.size w w' := by
  have hcv : v ≤ 9 ∨ (¬ v ≤ 9 ∧ v ≤ 26) ∨ (¬ v ≤ 9 ∧ ¬ v ≤ 26) := by omega
  rcases hcv with h1 | ⟨h1, h2⟩ | ⟨h1, h2⟩
  · rcases h with rfl | rfl | rfl
    all_goals (
      have e : ∀ m, cntB m v = cntB m 1 := fun m => by rw [cnt_row, if_pos h1]
      rw [e]
      clear e
      go_enter Try.func75, Try.ntmps75
      go_wp2_with fail
      go_ret2
      exact ⟨rfl, ((Below.refl _ _).alloc (Nat.le_refl _) _)⟩)
  · rcases h with rfl | rfl | rfl
    all_goals (
      have e : ∀ m, cntB m v = cntB m 10 := fun m => by rw [cnt_row, if_neg h1, if_pos h2]
      rw [e]
      clear e
      go_enter Try.func75, Try.ntmps75
      go_wp2_with fail
      go_ret2
      exact ⟨rfl, ((Below.refl _ _).alloc (Nat.le_refl _) _)⟩)
  · rcases h with rfl | rfl | rfl
    all_goals (
      have e : ∀ m, cntB m v = cntB m 27 := fun m => by rw [cnt_row, if_neg h1, if_neg h2]
      rw [e]
      clear e
      go_enter Try.func75, Try.ntmps75
      go_wp2_with fail
      go_ret2
      exact ⟨rfl, ((Below.refl _ _).alloc (Nat.le_refl _) _)⟩)
end Go.Proofs.Ytpffffhgmhpkiaa
