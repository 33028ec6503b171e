/- FnAZTurn: the walk of the law. -/
import Derived.Test.YtifegijnhlbedaaTurnP
namespace Go.Proofs.Ytifegijnhlbedaa
open Go.RowKit
set_option linter.unusedVariables false

set_option maxHeartbeats 400000 in
theorem specAZUpper (A : Option Addr) (c L : Nat) (S : List Nat) (w : World) (hL : L = 10 ∨ L = 14) (hS : Sides L S) (hR : Rd w A 4 (S.map sideVal)) :
    Calls Try.prog 18 #[.slice A 4 c, .int .i64 L] w (TurnOut (upFrom L S 4 0) w) := by
  go_enter Try.func18, Try.ntmps18
  go_wp2
  go_loopw [4, 5, 6] (fun r d i wr => ∃ k : Nat, k ≤ 4 ∧ i = .int .i64 k ∧ upFrom L S (4 - k) k = upFrom L S 4 0 ∧ Below w.heap.size w wr) (fun _ _ i _ => 4 - (intOf i).toNat)
  case atStart => exact ⟨0, by omega, rfl, rfl, Below.refl _ _⟩
  case round =>
    obtain ⟨k, hk, rfl, hup, hB⟩ := hrel
    have HU := hid hup
    clear hup
    by_cases hlt : k < 4
    · have hlt' : (k : Int) < 4 := by omega
      have HE := hid (show upFrom L S (4 - k) k = if wrongTo L S k 4 ≤ 2 then some k else upFrom L S (4 - (k + 1)) (k + 1) by
        rw [show 4 - k = (4 - (k + 1)) + 1 from by omega]; rfl)
      have hle := wrongTo_le L S k 4
      go_wp2_with fail
      refine (azWrongMarks A c L S k _ hL hS hlt (hR.below hB)).mono ?_
      rintro e w1 ⟨rfl, hB1⟩
      generalize wrongTo L S k 4 = p at *
      have hB' := hB.trans (hB1.mono hB.size)
      by_cases h2 : p ≤ 2
      · have h2' : (p : Int) ≤ 2 := by omega
        have HF := hid (show upFrom L S 4 0 = some k by rw [← HU.out, HE.out, if_pos h2])
        go_wp2_with fail
        go_ret2
        exact ⟨by rw [HF.out]; rfl, hB'⟩
      · have h2' : ¬ (p : Int) ≤ 2 := by omega
        have HF := hid (show upFrom L S (4 - (k + 1)) (k + 1) = upFrom L S 4 0 by rw [← HU.out, HE.out, if_neg h2])
        go_wp2_with fail
        go_roundw
        case rel => exact ⟨k + 1, by omega, by go_num, HF.out, hB'⟩
        case measure => simp [intOf]; omega
    · obtain rfl : k = 4 := by omega
      have HN := hid (show upFrom L S 4 0 = none by rw [← HU.out]; rfl)
      go_wp2
      go_ret2
      exact ⟨by rw [HN.out]; rfl, hB⟩

def lenOf (b : Bool) : Nat := if b then 10 else 14

theorem azLength (b : Bool) (w : World) : Calls Try.prog 16 #[.bool b] w fun e w' => e = .returned (.int .i64 (lenOf b : Nat)) ∧ w = w' := by
  cases b
  all_goals
    go_enter Try.func16, Try.ntmps16
    go_wp2
    go_ret
    exact ⟨rfl, rfl⟩

def laidS (S : List Nat) (k : Nat) : List Value := (List.range 4).map fun j => sideVal (if j < k then S.getD j 0 else 0)
theorem laidS_len (S : List Nat) (k : Nat) : (laidS S k).length = 4 := by simp [laidS]
theorem laidS_zero (S : List Nat) : List.replicate 4 (Value.int .i64 0) = laidS S 0 := rfl
theorem laidS_step (S : List Nat) (k : Nat) : (laidS S k).set k (.int .i64 (S.getD k 0 : Nat)) = laidS S (k + 1) := by
  apply List.ext_getElem
  · simp [laidS]
  · intro j h1 h2
    rw [List.getElem_set]
    simp only [laidS, List.getElem_map, List.getElem_range, sideVal]
    by_cases h : k = j
    · subst h; simp
    · rw [if_neg h]
      by_cases h3 : j < k
      · rw [if_pos h3, if_pos (by omega)]
      · rw [if_neg h3, if_neg (by omega)]
theorem laidS_all (S : List Nat) (h : S.length = 4) : laidS S 4 = S.map sideVal := by
  match S, h with
  | [a, b, c, d], _ => rfl

theorem mask_mod (L x : Nat) (hL : L = 10 ∨ L = 14) (hx : x ≤ 65535) : bits .and .i64 (x : Int) (wrap64 (wrap64 (2 ^ L) - 1)) = ((x % 2 ^ L : Nat) : Int) := by
  rcases hL with rfl | rfl
  · rw [show wrap64 (wrap64 (2 ^ 10) - 1) = ((1023 : Nat) : Int) from by decide +kernel, i64_and x 1023 (by omega) (by omega)]
    rw [show x &&& 1023 = x % 1024 from Nat.and_two_pow_sub_one_eq_mod x 10]
  · rw [show wrap64 (wrap64 (2 ^ 14) - 1) = ((16383 : Nat) : Int) from by decide +kernel, i64_and x 16383 (by omega) (by omega)]
    rw [show x &&& 16383 = x % 16384 from Nat.and_two_pow_sub_one_eq_mod x 14]

set_option maxHeartbeats 1000000 in
theorem turn_core (w : World) (x0 x1 x2 x3 : Nat) (h0 : x0 ≤ 65535) (h1 : x1 ≤ 65535) (h2 : x2 ≤ 65535) (h3 : x3 ≤ 65535) (b : Bool) :
    Calls Try.prog 6 #[.agg #[.int .u16 x0, .int .u16 x1, .int .u16 x2, .int .u16 x3], .bool b] w fun e w' => e = .returned (.bool true) ∧ Below w.heap.size w w' := by
  obtain ⟨L, hLe, hL⟩ : ∃ L, L = lenOf b ∧ (L = 10 ∨ L = 14) := ⟨_, rfl, by cases b <;> simp [lenOf]⟩
  have HL := hid hLe
  clear hLe
  have hlen := azLength b
  obtain ⟨i0, hi, hz0, hz1, hz2⟩ := info_parts info3t
  have hmk := fun W => run_make (P := Try.prog) W 23 3 i0 (.int .i64 0) Try.underlying23 hi hz0 .i64 .i64 4 4 (by omega) (by omega) (by rw [hz2]; omega) (by omega)
  simp only [hz1] at hmk
  clear hz0 hz1 hz2 hi
  go_enter Try.func6, Try.ntmps6
  go_wp2_with fail
  refine (hlen _).mono ?_
  rintro e w1 ⟨rfl, rfl⟩
  rw [← HL.out]
  clear hlen
  go_wp2
  have hX : Arr ((w.alloc (.cells #[.int .u16 x0, .int .u16 x1, .int .u16 x2, .int .u16 x3] 38)).alloc (.cells (madeCells #[.int .i64 0] 4) 3)) w.heap.size 38 [.int .u16 x0, .int .u16 x1, .int .u16 x2, .int .u16 x3] :=
    (Arr.of_new w 38 _).alloc _
  obtain ⟨S, hS⟩ : ∃ S, S = [x0 % 2 ^ L, x1 % 2 ^ L, x2 % 2 ^ L, x3 % 2 ^ L] := ⟨_, rfl⟩
  have hA : Arr ((w.alloc (.cells #[.int .u16 x0, .int .u16 x1, .int .u16 x2, .int .u16 x3] 38)).alloc (.cells (madeCells #[.int .i64 0] 4) 3)) (w.heap.size + 1) 3 (laidS S 0) := by
    have := Arr.made (w.alloc (.cells #[.int .u16 x0, .int .u16 x1, .int .u16 x2, .int .u16 x3] 38)) 3 (.int .i64 0) 4
    simpa [laidS_zero S] using this
  have hB : Below w.heap.size w ((w.alloc (.cells #[.int .u16 x0, .int .u16 x1, .int .u16 x2, .int .u16 x3] 38)).alloc (.cells (madeCells #[.int .i64 0] 4) 3)) :=
    ((Below.refl _ _).alloc (Nat.le_refl _) _).alloc (by simp) _
  have HS := hid hS
  clear hS
  generalize (w.alloc (.cells #[.int .u16 x0, .int .u16 x1, .int .u16 x2, .int .u16 x3] 38)).alloc (.cells (madeCells #[.int .i64 0] 4) 3) = w1 at hX hA hB ⊢
  clear hmk
  go_loopw [7] (fun i wr => ∃ k : Nat, k ≤ 4 ∧ i = .int .i64 k ∧ Arr wr w.heap.size 38 [.int .u16 x0, .int .u16 x1, .int .u16 x2, .int .u16 x3] ∧ Arr wr (w.heap.size + 1) 3 (laidS S k) ∧ Below w.heap.size w wr) (fun i _ => 4 - (intOf i).toNat)
  case atStart => exact ⟨0, by omega, rfl, hX, hA, hB⟩
  case round =>
    obtain ⟨k, hk, rfl, hX, hA, hB⟩ := hrel
    by_cases hlt : k < 4
    · have hlt' : (k : Int) < 4 := by omega
      obtain ⟨x, hx, hxl, HX⟩ : ∃ x : Nat, wr.cell? ⟨w.heap.size, k, none⟩ = some (.int .u16 x) ∧ x ≤ 65535 ∧ Hid (S.getD k 0 = x % 2 ^ L) := by
        rw [hX.cell? k, HS.out]
        rcases (by omega : k = 0 ∨ k = 1 ∨ k = 2 ∨ k = 3) with rfl | rfl | rfl | rfl
        · exact ⟨x0, rfl, h0, hid rfl⟩
        · exact ⟨x1, rfl, h1, hid rfl⟩
        · exact ⟨x2, rfl, h2, hid rfl⟩
        · exact ⟨x3, rfl, h3, hid rfl⟩
      obtain ⟨v, hc⟩ := hA.has k (by rw [laidS_len]; omega)
      have hf := hA.frozen k
      have hX' := fun v => hX.far (p := ⟨w.heap.size + 1, k, none⟩) (by simp) v
      have HA := hid hA
      have HXX := hid hX'
      clear hX hA hX'
      go_wp2
      go_roundw
      case rel =>
        refine ⟨k + 1, by omega, by go_num, HXX.out _, ?_, hB.setCell (by simp) _⟩
        have h := HA.out.set k (.int .i64 (S.getD k 0 : Nat))
        rw [laidS_step, HX.out] at h
        rw [mask_mod L x hL hxl]
        exact h
      case measure => simp [intOf]; omega
    · obtain rfl : k = 4 := by omega
      have hSides : Sides L S := by
        rw [HS.out]
        refine ⟨rfl, fun j hj => ?_⟩
        have hp : 0 < 2 ^ L := Nat.two_pow_pos L
        rcases (by omega : j = 0 ∨ j = 1 ∨ j = 2 ∨ j = 3) with rfl | rfl | rfl | rfl <;> exact Nat.mod_lt _ hp
      rw [laidS_all S hSides.1] at hA
      have hR := Rd.of_arr hA
      rw [List.length_map, hSides.1] at hR
      have HT := hid (turn_eq hL hSides 4 0 (by omega))
      clear hX hA
      go_wp2_with fail
      refine (implAZTurn _ 4 L S _ hL hSides hR).mono ?_
      rintro e w2 ⟨rfl, hB2⟩
      rw [HT.out]
      have hR2 := hR.below hB2
      have hB2' := hB.trans (hB2.mono hB.size)
      clear hR hB2
      go_wp2_with fail
      refine (specAZUpper _ 4 L S _ hL hSides hR2).mono ?_
      rintro e w3 ⟨rfl, hB3⟩
      have hB3' := hB2'.trans (hB3.mono hB2'.size)
      clear HT hR2 hB2' hB3
      generalize upFrom L S 4 0 = r
      cases r with
      | none =>
        go_wp2_with fail
        go_ret
        exact ⟨rfl, hB3'⟩
      | some j =>
        go_wp2_with fail
        go_ret
        exact ⟨rfl, hB3'⟩

theorem FnAZTurn_walk (w : World) (zs : List Int) (hl : zs.length = 4) (hw : ∀ x ∈ zs, (Lit.int .u16 x).wf = true) (b : Bool) :
    Calls Try.prog 6 #[.agg (zs.map (Value.int .u16)).toArray, .bool b] w fun e w' => e = .returned (.bool true) ∧ Below w.heap.size w w' := by
  match zs, hl, hw with
  | [x0, x1, x2, x3], _, hw =>
    have a0 := wf_u16 (hw x0 (by simp))
    have a1 := wf_u16 (hw x1 (by simp))
    have a2 := wf_u16 (hw x2 (by simp))
    have a3 := wf_u16 (hw x3 (by simp))
    obtain ⟨y0, rfl⟩ := Int.eq_ofNat_of_zero_le a0.1
    obtain ⟨y1, rfl⟩ := Int.eq_ofNat_of_zero_le a1.1
    obtain ⟨y2, rfl⟩ := Int.eq_ofNat_of_zero_le a2.1
    obtain ⟨y3, rfl⟩ := Int.eq_ofNat_of_zero_le a3.1
    exact turn_core w y0 y1 y2 y3 (by omega) (by omega) (by omega) (by omega) b
end Go.Proofs.Ytifegijnhlbedaa
