/- QR codes: spec.QRCenters, qrGiven. -/
import Derived.Test.YtpffffhgmhpkiaaQaB
namespace Go.Proofs.Ytpffffhgmhpkiaa
open Go.RowKit
set_option linter.unusedVariables false

/-- The middles are told, in new memory. -/
def CenOut (v : Nat) (w : World) (e : Ending) (w' : World) : Prop := ∃ A m c, e = .returned (.slice A m c) ∧ m = cmany v ∧ Rd w' A m (cenV v) ∧ Below w.heap.size w w'
theorem cen_step (v : Nat) : cenV v = (List.range (cmany v)).map fun i => Value.int .i64 (cen v i : Nat) := by
  simp [cenV, cenL]
theorem first_cell (m v : Nat) (hm : 1 ≤ m) : ((madeCells #[Value.int .i64 0] m).setIfInBounds 0 (Value.int .i64 6)).toList = (List.range 1).map (fun i => Value.int .i64 (cen v i : Nat)) ++ List.replicate (m - 1) (.int .i64 0) := by
  have e : (madeCells #[Value.int .i64 0] m).toList = List.replicate m (.int .i64 0) := by
    apply List.ext_getElem
    · simp [madeCells]
    · intro i h1 h2
      simp [madeCells, Nat.mod_one]
  rw [Array.toList_setIfInBounds, e, show m = (m - 1) + 1 by omega, List.replicate_succ, List.set_cons_zero]
  simp [List.range_succ, cen]
theorem arr_set_int {w : World} {g i : Nat} {t : TypeId} {l : List Value} {z z' : Int} (h : Arr (w.setCell ⟨g, i, none⟩ (.int .i64 z)) g t l) (e : z = z') : Arr (w.setCell ⟨g, i, none⟩ (.int .i64 z')) g t l := e ▸ h
set_option maxRecDepth 20000 in
set_option maxHeartbeats 8000000 in
theorem centersQ (v : Nat) (h1 : 1 ≤ v) (h2 : v ≤ 40) (w : World) : Calls Try.prog 60 #[.int .i64 v] w (CenOut v w) := by
  by_cases hv1 : v = 1
  · subst hv1
    go_enter Try.func60, Try.ntmps60
    go_wp2_with fail
    go_ret
    exact ⟨none, 0, 0, rfl, rfl, ⟨rfl, fun h => absurd h (by omega)⟩, Below.refl _ _⟩
  obtain ⟨i3, hi3, hz0, hz1, hz2⟩ := info_of info3
  obtain ⟨_, _, hm7⟩ := room_ok v h1 h2
  obtain ⟨m, hm⟩ : ∃ m, m = cmany v := ⟨_, rfl⟩
  have hm' : m = v / 7 + 2 := by rw [hm]; unfold cmany; rw [if_neg hv1]
  have CO := hid (fun i (hi : i < cmany v) => cen_ok v i h1 h2 hi)
  obtain ⟨s, hs⟩ : ∃ s, s = cstep v := ⟨_, rfl⟩
  have hs' : s = if v = 32 then 26 else (v * 4 + m * 2 + 1) / (m * 2 - 2) * 2 := by rw [hs, hm]; rfl
  have CEN := hid (fun i => show cen v i = if i = 0 then 6 else 17 + 4 * v - 7 - s * (m - 1 - i) from by rw [hs, hm]; rfl)
  rw [← hm] at hm7 CO
  rw [← hs] at CO
  have hs28 : s ≤ 28 := (CO.out 0 (by omega)).2.2.1
  have HM := hid hm
  have HS := hid hs'
  have hm2 : 2 ≤ m := by omega
  have e1 : (v : Int) / 7 + 2 = (m : Int) := by omega
  have e2 : ((v : Int) * 4 + (m : Int) * 2 + 1) / ((m : Int) * 2 - 2) = (((v * 4 + m * 2 + 1) / (m * 2 - 2) : Nat) : Int) := by
    rw [Int.natCast_ediv]; congr 1; omega
  have dq := fun W => dimQ v h2 W
  have hmk := fun W => run_make (P := Try.prog) W 31 3 i3 (.int .i64 0) Try.underlying31 hi3 hz0 .i64 .i64 (m : Int) (m : Int) (by omega) (by omega) (by rw [hz2]; omega) (by omega)
  simp only [hz1] at hmk
  obtain ⟨q, hq⟩ : ∃ q, q = (v * 4 + m * 2 + 1) / (m * 2 - 2) := ⟨_, rfl⟩
  have hq200 : q ≤ 200 := by rw [hq]; exact Nat.le_trans (Nat.div_le_self _ _) (by omega)
  rw [← hq] at e2 hs'
  have hq2 : v ≠ 32 → (q : Int) * 2 = (s : Int) := fun h => by rw [if_neg h] at hs'; omega
  have hq3 : v = 32 → s = 26 := fun h => by rw [if_pos h] at hs'; exact hs'
  have d0 : ¬ (m : Int) * 2 - 2 = 0 := by omega
  have HV1 : ((v : Int) == 1) = false := by simp; omega
  clear hm hs hm' hs' hq
  by_cases h32 : v = 32
  · subst h32
    obtain rfl : s = 26 := hq3 rfl
    obtain rfl : m = 6 := by omega
    clear hq2 hq3 hmk e1 e2
    have hmk := fun W => run_make (P := Try.prog) W 31 3 i3 (.int .i64 0) Try.underlying31 hi3 hz0 .i64 .i64 (6 : Int) (6 : Int) (by omega) (by omega) (by rw [hz2]; omega) (by omega)
    simp only [hz1] at hmk
    have mc0 : (madeCells #[Value.int .i64 0] 6)[0]? = some (.int .i64 0) := by simp [madeCells, show 0 < 6 by omega]
    go_enter Try.func60, Try.ntmps60
    go_wp2_with fail
    have HA := hid (show Arr (w.alloc (.cells ((madeCells #[.int .i64 0] 6).setIfInBounds 0 (.int .i64 6)) 3)) w.heap.size 3 ((List.range 1).map (fun i => Value.int .i64 (cen 32 i : Nat)) ++ List.replicate (6 - 1) (.int .i64 0)) from by
      have h := Arr.of_new w 3 ((madeCells #[.int .i64 0] 6).setIfInBounds 0 (.int .i64 6))
      have e := first_cell 6 32 (by omega)
      rw [e] at h
      exact h)
    have HB := hid (show Below w.heap.size w (w.alloc (.cells ((madeCells #[.int .i64 0] 6).setIfInBounds 0 (.int .i64 6)) 3)) from (Below.refl _ _).alloc (Nat.le_refl _) _)
    generalize w.alloc (.cells ((madeCells #[.int .i64 0] 6).setIfInBounds 0 (.int .i64 6)) 3) = w1 at *
    clear hmk
    go_loopw [6] (fun iv wr => ∃ i : Nat, 1 ≤ i ∧ i ≤ 6 ∧ iv = .int .i64 (i : Nat) ∧ Arr wr w.heap.size 3 ((List.range i).map (fun i => Value.int .i64 (cen 32 i : Nat)) ++ List.replicate (6 - i) (.int .i64 0)) ∧ Below w.heap.size w wr) (fun iv _ => 6 - (intOf iv).toNat)
    case atStart => exact ⟨1, by omega, by omega, rfl, HA.out, HB.out⟩
    case round =>
      clear HA HB
      obtain ⟨i, hi1, hi, rfl, hA, hB⟩ := hrel
      have HA := hid hA
      have HB := hid hB
      by_cases hlt : i < 6
      · have hlt' : (i : Int) < (6 : Int) := by omega
        obtain ⟨v0, hv0⟩ := hA.has i (by simp; omega)
        have fz := hA.frozen i
        clear hA hB
        have hce := CEN.out i
        rw [if_neg (by omega)] at hce
        have HPC := hid hce
        clear hce
        go_wp2_with fail
        refine (dq _).mono ?_
        rintro e w2 ⟨rfl, rfl⟩
        go_wp2_with fail
        go_roundw
        case rel =>
          first | refine ⟨i + 1, by omega, by omega, by go_num, ?_, HB.out.setCell (by simp) _⟩ | ((repeat apply Exists.intro); refine ⟨⟨i + 1, by omega, by omega, rfl, ?_, HB.out.setCell (by simp) _⟩, rfl⟩)
          have h := HA.out.set i (.int .i64 (cen 32 i : Nat))
          rw [List.set_append_right _ _ (by simp), show (6 - i) = (6 - (i + 1)) + 1 by omega, List.replicate_succ] at h
          simp only [List.length_map, List.length_range, Nat.sub_self, List.set_cons_zero] at h
          rw [List.range_succ, List.map_append, List.map_singleton, List.append_assoc, List.singleton_append]
          exact arr_set_int h (by have := HPC.out; omega)
        case measure => simp [intOf]; omega
      · obtain rfl : i = 6 := by omega
        have hlt' : ¬ ((6 : Nat) : Int) < 6 := by omega
        clear hA hB
        go_wp2_with fail
        go_ret
        have h := Rd.of_arr HA.out
        simp only [Nat.sub_self, List.replicate_zero, List.append_nil, List.length_map, List.length_range] at h
        refine ⟨_, _, _, rfl, HM.out, ?_, HB.out⟩
        rw [cen_step, ← HM.out]
        exact h
  · have hq4 := hq2 h32
    have H32 : ((v : Int) == 32) = false := by simp; omega
    clear hq2 hq3
    have mc0 : (madeCells #[Value.int .i64 0] m)[0]? = some (.int .i64 0) := by simp [madeCells, show 0 < m by omega]
    go_enter Try.func60, Try.ntmps60
    go_wp2_with fail
    have HA := hid (show Arr (w.alloc (.cells ((madeCells #[.int .i64 0] m).setIfInBounds 0 (.int .i64 6)) 3)) w.heap.size 3 ((List.range 1).map (fun i => Value.int .i64 (cen v i : Nat)) ++ List.replicate (m - 1) (.int .i64 0)) from by
      have h := Arr.of_new w 3 ((madeCells #[.int .i64 0] m).setIfInBounds 0 (.int .i64 6))
      have e := first_cell m v (by omega)
      rw [e] at h
      exact h)
    have HB := hid (show Below w.heap.size w (w.alloc (.cells ((madeCells #[.int .i64 0] m).setIfInBounds 0 (.int .i64 6)) 3)) from (Below.refl _ _).alloc (Nat.le_refl _) _)
    generalize w.alloc (.cells ((madeCells #[.int .i64 0] m).setIfInBounds 0 (.int .i64 6)) 3) = w1 at *
    clear hmk e2 hq4
    go_loopw [6] (fun iv wr => ∃ i : Nat, 1 ≤ i ∧ i ≤ m ∧ iv = .int .i64 (i : Nat) ∧ Arr wr w.heap.size 3 ((List.range i).map (fun i => Value.int .i64 (cen v i : Nat)) ++ List.replicate (m - i) (.int .i64 0)) ∧ Below w.heap.size w wr) (fun iv _ => m - (intOf iv).toNat)
    case atStart => exact ⟨1, by omega, by omega, rfl, HA.out, HB.out⟩
    case round =>
      clear HA HB
      obtain ⟨i, hi1, hi, rfl, hA, hB⟩ := hrel
      have HA := hid hA
      have HB := hid hB
      by_cases hlt : i < m
      · have hlt' : (i : Int) < (m : Int) := by omega
        obtain ⟨v0, hv0⟩ := hA.has i (by simp; omega)
        have fz := hA.frozen i
        clear hA hB
        obtain ⟨P, hP⟩ : ∃ P, P = s * (m - 1 - i) := ⟨_, rfl⟩
        obtain ⟨c1, c2, c3, _⟩ := CO.out i hlt
        have hce := CEN.out i
        rw [if_neg (by omega)] at hce
        rw [← hP] at c2 hce
        have hPI : (s : Int) * ((m : Int) - 1 - (i : Int)) = (P : Int) := by
          rw [hP, Int.natCast_mul]; congr 1; omega
        have hPc : (17 : Int) + 4 * (v : Int) - 7 - (P : Int) = ((cen v i : Nat) : Int) := by omega
        have hPl : P ≤ 200 := by omega
        have HPC := hid hPc
        have HPN := hid hPI
        clear hPc hce hP c1 c2 c3
        go_wp2_with fail
        refine (dq _).mono ?_
        rintro e w2 ⟨rfl, rfl⟩
        go_wp2_with fail
        go_roundw
        case rel =>
          first | refine ⟨i + 1, by omega, by omega, by go_num, ?_, HB.out.setCell (by simp) _⟩ | ((repeat apply Exists.intro); refine ⟨⟨i + 1, by omega, by omega, rfl, ?_, HB.out.setCell (by simp) _⟩, rfl⟩)
          have h := HA.out.set i (.int .i64 (cen v i : Nat))
          rw [List.set_append_right _ _ (by simp), show (m - i) = (m - (i + 1)) + 1 by omega, List.replicate_succ] at h
          simp only [List.length_map, List.length_range, Nat.sub_self, List.set_cons_zero] at h
          rw [List.range_succ, List.map_append, List.map_singleton, List.append_assoc, List.singleton_append]
          exact arr_set_int h (by have := HPC.out; omega)
        case measure => simp [intOf]; omega
      · obtain rfl : i = m := by omega
        have hlt' : ¬ (i : Int) < (i : Int) := by omega
        clear hA hB
        go_wp2_with fail
        go_ret
        have h := Rd.of_arr HA.out
        simp only [Nat.sub_self, List.replicate_zero, List.append_nil, List.length_map, List.length_range] at h
        refine ⟨_, _, _, rfl, HM.out, ?_, HB.out⟩
        rw [cen_step, ← HM.out]
        exact h
end Go.Proofs.Ytpffffhgmhpkiaa
