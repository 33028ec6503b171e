/- spec.AZPlaces, spec.BIRows of nothing. -/
import Derived.Test.YtliephokeafllaaGreatDoorAzF
import Derived.Test.YtliephokeafllaaGreatDoorAzP
namespace Go.Proofs.YtliephokeafllaaGreatDoor
open Go.RowKit
set_option linter.unusedVariables false
set_option linter.unusedSimpArgs false

/-- Places, and how many modules the side has. -/
def PlacesOut (c : Bool) (L : Nat) (w : World) (e : Ending) (w' : World) : Prop :=
  ∃ g, e = .returned (.tuple #[.slice (some ⟨g, 0, none⟩) (azSide c L) (azSide c L), .int .i64 (azWhole c L : Nat)]) ∧ Arr w' g 3 (ints ((List.range (azSide c L)).map (azPl c L))) ∧ Below w.heap.size w w' ∧ w.heap.size ≤ g

/-- Places so far: i of them to both sides of the middle. -/
def plTo (L i : Nat) : List Nat := (List.range (azSide false L)).map fun u => if azHalf L - i ≤ u ∧ u < azHalf L + i then azPl false L u else 0

theorem ints_get (l : List Nat) (k : Nat) (hk : k < l.length) : (ints l)[k]'(by rw [ints_len]; exact hk) = .int .i64 ((l[k] : Nat) : Int) := by simp [ints]
theorem ints_set (l : List Nat) (k n : Nat) : (ints l).set k (.int .i64 (n : Nat)) = ints (l.set k n) := by simp [ints, List.map_set]

theorem range_set (S k v : Nat) (f : Nat → Nat) (hk : k < S) : ((List.range S).map f).set k v = (List.range S).map fun u => if u = k then v else f u := by
  apply List.ext_getElem
  · simp
  · intro i h1 h2
    simp only [List.length_set, List.length_map, List.length_range] at h1
    rw [List.getElem_set]
    simp only [List.getElem_map, List.getElem_range]
    by_cases e : k = i
    · rw [if_pos e, if_pos e.symm]
    · rw [if_neg e, if_neg (fun h => e h.symm)]
theorem range_zero (S : Nat) : List.replicate S (Value.int .i64 0) = ints ((List.range S).map fun _ => 0) := by
  apply List.ext_getElem
  · simp [ints]
  · intro i h1 h2; simp [ints]
theorem range_congr (S : Nat) (f g : Nat → Nat) (h : ∀ u, u < S → f u = g u) : ints ((List.range S).map f) = ints ((List.range S).map g) := by
  congr 1
  apply List.map_congr_left
  intro u hu
  exact h u (List.mem_range.1 hu)

set_option maxRecDepth 20000 in
set_option maxHeartbeats 8000000 in
theorem placesM (c : Bool) (L : Nat) (hL0 : 1 ≤ L) (hL : L ≤ 32) (w : World) : Calls Tryz.prog 13 #[.bool c, .int .i64 (L : Nat)] w (PlacesOut c L w) := by
  obtain ⟨i3, hi3, hb0, hb1, hb2⟩ := info_of info3
  have HSD := hid (azSideM c L hL w)
  cases c
  case true =>
    obtain ⟨S, hS⟩ : ∃ S, S = azSide true L := ⟨_, rfl⟩
    have hSb : S ≤ 200 := by rw [hS]; simp [azSide]; omega
    have hS1 : 1 ≤ S := by rw [hS]; simp [azSide]; omega
    have HW := hid (show azWhole true L = S by rw [hS]; rfl)
    have hmk := fun W => run_make (P := Tryz.prog) W 25 3 i3 (.int .i64 0) Tryz.underlying25 hi3 hb0 .i64 .i64 (S : Int) (S : Int) (by omega) (by omega) (by rw [hb2]; omega) (by omega)
    simp only [hb1, show (Value.int IntKind.i64 0).cells = #[.int .i64 0] from rfl] at hmk
    have HM0 := hid (show Arr (w.alloc (.cells (madeCells #[.int .i64 0] S) 3)) w.heap.size 3 (ints ((List.range S).map fun _ => 0)) by rw [← range_zero]; exact Arr.made w 3 _ S)
    have HBM := hid (show Below w.heap.size w (w.alloc (.cells (madeCells #[.int .i64 0] S) 3)) from (Below.refl _ _).alloc (Nat.le_refl _) _)
    have HSS := hid hS
    rw [← hS] at HSD
    clear hS
    unfold PlacesOut
    rw [← HSS.out, HW.out]
    go_enter Tryz.func13, Tryz.ntmps13
    go_wp2_with (go_at_call 28; ((with_reducible refine HSD.out.mono ?_); rintro e w' ⟨rfl, rfl⟩))
    generalize w.alloc (.cells (madeCells #[.int .i64 0] S) 3) = w1 at *
    have HB0 := hid (show Below w.heap.size w w1 from HBM.out)
    clear hmk HSD HBM
    go_loopw [8] (fun iv wr => ∃ i : Nat, i ≤ S ∧ iv = .int .i64 (i : Nat) ∧ Hid (Arr wr w.heap.size 3 (ints ((List.range S).map fun u => if u < i then u else 0))) ∧ Hid (Below w.heap.size w wr)) (fun iv _ => S - (intOf iv).toNat)
    case atStart => exact ⟨0, by omega, rfl, hid (by rw [range_congr S _ (fun _ => 0) (fun u _ => by rw [if_neg (by omega)])]; exact HM0.out), HB0⟩
    case round =>
      obtain ⟨i, hi, rfl, HA, HB⟩ := hrel
      by_cases hlt : i < S
      · have hlt' : (i : Int) < (S : Int) := by omega
        have hc := HA.out.has i (by rw [ints_len, List.length_map, List.length_range]; exact hlt)
        obtain ⟨cv, hcv⟩ := hc
        have fz := HA.out.frozen i
        have HA2 := hid (show Arr (wr.setCell ⟨w.heap.size, i, none⟩ (.int .i64 (i : Nat))) w.heap.size 3 (ints ((List.range S).map fun u => if u < i + 1 then u else 0)) by
          have := HA.out.set i (.int .i64 (i : Nat))
          rw [ints_set, range_set S i i _ hlt] at this
          rwa [range_congr S (fun u => if u < i + 1 then u else 0) (fun u => if u = i then i else if u < i then u else 0) (fun u _ => by
            by_cases e : u = i
            · rw [if_pos (by omega), if_pos e, e]
            · rw [if_neg e]
              by_cases e2 : u < i
              · rw [if_pos e2, if_pos (by omega)]
              · rw [if_neg e2, if_neg (by omega)])])
        have HB2 := hid (HB.out.setCell (p := ⟨w.heap.size, i, none⟩) (Nat.le_refl _) (.int .i64 (i : Nat)))
        clear HA HB
        go_wp2_with fail
        go_roundw
        case rel => exact ⟨i + 1, by omega, by go_num, HA2, HB2⟩
        case measure => simp [intOf]; omega
      · obtain rfl : i = S := by omega
        have hlt' : ¬ (i : Int) < (i : Int) := by omega
        go_wp2_with fail
        go_ret2
        refine ⟨_, rfl, ?_, HB.out, Nat.le_refl _⟩
        have := HA.out
        rwa [range_congr i (azPl true L) (fun u => if u < i then u else 0) (fun u hu => by rw [if_pos hu]; rfl)]
  case false =>
    obtain ⟨S, hS⟩ : ∃ S, S = azSide false L := ⟨_, rfl⟩
    obtain ⟨H, hH⟩ : ∃ H, H = azHalf L := ⟨_, rfl⟩
    obtain ⟨M, hM⟩ : ∃ M, M = azMid L := ⟨_, rfl⟩
    obtain ⟨W, hW⟩ : ∃ W, W = azWhole false L := ⟨_, rfl⟩
    have hSH : S = 2 * H := by rw [hS, hH]; simp [azSide, azHalf]; omega
    have hH7 : H ≤ 71 := by rw [hH]; simp [azHalf]; omega
    have hH1 : 1 ≤ H := by rw [hH]; simp [azHalf]; omega
    have hMM : M = H + (H - 1) / 15 := by rw [hM, hH]; rfl
    have hWW : W = S + 1 + 2 * ((H - 1) / 15) := by rw [hW, hS, hH]; rfl
    have hmk := fun W => run_make (P := Tryz.prog) W 25 3 i3 (.int .i64 0) Tryz.underlying25 hi3 hb0 .i64 .i64 (S : Int) (S : Int) (by omega) (by omega) (by rw [hb2]; omega) (by omega)
    simp only [hb1, show (Value.int IntKind.i64 0).cells = #[.int .i64 0] from rfl] at hmk
    have HM0 := hid (show Arr (w.alloc (.cells (madeCells #[.int .i64 0] S) 3)) w.heap.size 3 (ints ((List.range S).map fun _ => 0)) by rw [← range_zero]; exact Arr.made w 3 _ S)
    have HBM := hid (show Below w.heap.size w (w.alloc (.cells (madeCells #[.int .i64 0] S) 3)) from (Below.refl _ _).alloc (Nat.le_refl _) _)
    have HPL := hid (show ∀ u, azPl false L u = if u < H then M - ((H - 1 - u) + (H - 1 - u) / 15) - 1 else M + ((u - H) + (u - H) / 15) + 1 by
      intro u
      rw [hH, hM]
      simp [azPl])
    have e1 : (S : Int) / 2 = (H : Nat) := by omega
    have e2 : (S : Int) + 1 + 2 * (((H : Int) - 1) / 15) = (W : Nat) := by omega
    have e3 : (W : Int) / 2 = (M : Nat) := by omega
    have hMb : M ≤ 100 := by omega
    have hMH : H ≤ M := by omega
    have hMlo : H + (H - 1) / 15 ≤ M := by omega
    have HSS := hid hS
    rw [← hS] at HSD
    unfold PlacesOut
    rw [← hW, ← HSS.out]
    have hWb : W ≤ 200 := by omega
    have hSb : S ≤ 2 * H := by omega
    have hSb2 : 2 * H ≤ S := by omega
    clear hS hH hM hW hSH hMM hWW
    go_enter Tryz.func13, Tryz.ntmps13
    go_wp2_with (go_at_call 28; ((with_reducible refine HSD.out.mono ?_); rintro e w' ⟨rfl, rfl⟩))
    generalize w.alloc (.cells (madeCells #[.int .i64 0] S) 3) = w1 at *
    have HB0 := hid (show Below w.heap.size w w1 from HBM.out)
    clear hmk HSD HBM
    go_loopw [10] (fun iv wr => ∃ i : Nat, i ≤ H ∧ iv = .int .i64 (i : Nat) ∧ Hid (Arr wr w.heap.size 3 (ints ((List.range S).map fun u => if H ≤ u + i ∧ u < H + i then azPl false L u else 0))) ∧ Hid (Below w.heap.size w wr)) (fun iv _ => H - (intOf iv).toNat)
    case atStart => exact ⟨0, by omega, rfl, hid (by rw [range_congr S _ (fun _ => 0) (fun u _ => by rw [if_neg (by omega)])]; exact HM0.out), HB0⟩
    case round =>
      obtain ⟨i, hi, rfl, HA, HB⟩ := hrel
      by_cases hlt : i < H
      · have hlt' : (i : Int) < (H : Int) := by omega
        obtain ⟨mo, hmo⟩ : ∃ mo, mo = i + i / 15 := ⟨_, rfl⟩
        have e4 : (i : Int) + (i : Int) / 15 = (mo : Nat) := by omega
        have hmo2 : mo + 1 ≤ M := by omega
        obtain ⟨u1, hu1⟩ : ∃ u1, u1 = H - i - 1 := ⟨_, rfl⟩
        obtain ⟨u2, hu2⟩ : ∃ u2, u2 = H + i := ⟨_, rfl⟩
        obtain ⟨v1, hv1⟩ : ∃ v1, v1 = M - mo - 1 := ⟨_, rfl⟩
        obtain ⟨v2, hv2⟩ : ∃ v2, v2 = M + mo + 1 := ⟨_, rfl⟩
        have e5 : (H : Int) - (i : Int) - 1 = (u1 : Nat) := by omega
        have e6 : (M : Int) - (mo : Int) - 1 = (v1 : Nat) := by omega
        have e7 : (H : Int) + (i : Int) = (u2 : Nat) := by omega
        have e8 : (M : Int) + (mo : Int) + 1 = (v2 : Nat) := by omega
        have hp1 : azPl false L u1 = v1 := by rw [HPL.out, if_pos (by omega), hv1, hmo, show H - 1 - u1 = i by omega]
        have hp2 : azPl false L u2 = v2 := by rw [HPL.out, if_neg (by omega), hv2, hmo, show u2 - H = i by omega]
        have hu1S : u1 < S := by omega
        have hu2S : u2 < S := by omega
        have hlen : ∀ f : Nat → Nat, (ints ((List.range S).map f)).length = S := fun f => by rw [ints_len, List.length_map, List.length_range]
        obtain ⟨cv, hcv⟩ := HA.out.has u1 (by rw [hlen]; exact hu1S)
        have fz := HA.out.frozen u1
        have hA1 := HA.out.set u1 (.int .i64 (v1 : Nat))
        rw [ints_set, range_set S u1 v1 _ hu1S] at hA1
        obtain ⟨cv2, hcv2⟩ := hA1.has u2 (by rw [hlen]; exact hu2S)
        have fz2 := hA1.frozen u2
        have hA2 := hA1.set u2 (.int .i64 (v2 : Nat))
        rw [ints_set, range_set S u2 v2 _ hu2S] at hA2
        have HA2 := hid (show Arr ((wr.setCell ⟨w.heap.size, u1, none⟩ (.int .i64 (v1 : Nat))).setCell ⟨w.heap.size, u2, none⟩ (.int .i64 (v2 : Nat))) w.heap.size 3 (ints ((List.range S).map fun u => if H ≤ u + (i + 1) ∧ u < H + (i + 1) then azPl false L u else 0)) by
          rwa [range_congr S (fun u => if H ≤ u + (i + 1) ∧ u < H + (i + 1) then azPl false L u else 0) (fun u => if u = u2 then v2 else if u = u1 then v1 else if H ≤ u + i ∧ u < H + i then azPl false L u else 0) (fun u _ => by
            by_cases a1 : u = u2
            · rw [if_pos (by omega), if_pos a1, a1, hp2]
            rw [if_neg a1]
            by_cases a2 : u = u1
            · rw [if_pos (by omega), if_pos a2, a2, hp1]
            rw [if_neg a2]
            by_cases a3 : H ≤ u + i ∧ u < H + i
            · rw [if_pos a3, if_pos (by omega)]
            · rw [if_neg a3, if_neg (by omega)])])
        have HB2 := hid ((HB.out.setCell (p := ⟨w.heap.size, u1, none⟩) (Nat.le_refl _) (.int .i64 (v1 : Nat))).setCell (p := ⟨w.heap.size, u2, none⟩) (Nat.le_refl _) (.int .i64 (v2 : Nat)))
        clear HA HB hA1 hA2 hp1 hp2 hlen hmo hu1 hu2 hv1 hv2
        go_wp2_with fail
        go_roundw
        case rel => exact ⟨i + 1, by omega, by go_num, HA2, HB2⟩
        case measure => simp [intOf]; omega
      · obtain rfl : i = H := by omega
        have hlt' : ¬ (i : Int) < (i : Int) := by omega
        go_wp2_with fail
        go_ret2
        refine ⟨_, rfl, ?_, HB.out, Nat.le_refl _⟩
        have := HA.out
        rwa [range_congr S (azPl false L) (fun u => if i ≤ u + i ∧ u < i + i then azPl false L u else 0) (fun u hu => by rw [if_pos (by omega)])]
end Go.Proofs.YtliephokeafllaaGreatDoor
