/- spec.dmValues. -/
import Derived.Test.YtfmjkflihnfneaaDoorDnC
namespace Go.Proofs.YtfmjkflihnfneaaDoor
open Go.RowKit
set_option linter.unusedVariables false
set_option linter.unusedSimpArgs false

/-- Numbers that the call made. -/
def IntsNew (l : List Nat) (w : World) (e : Ending) (w' : World) : Prop :=
  ∃ v, e = .returned v ∧ Own w' w.heap.size 3 v (ints l) ∧ Below w.heap.size w w'
theorem new1 (w : World) (a : Nat) (z : Int) (hz : z = (a : Nat)) : IntsNew [a] w (.returned (.slice (some ⟨w.heap.size, 0, none⟩) 1 1)) (w.alloc (.cells #[.int .i64 z] 3)) := by
  subst hz
  exact ⟨_, rfl, Own.lit #[.int .i64 (a : Nat)] (Nat.le_refl _) (by simp [maxLen]), (Below.refl _ _).alloc (Nat.le_refl _) _⟩
theorem new2 (w : World) (a b : Nat) (y z : Int) (hy : y = (a : Nat)) (hz : z = (b : Nat)) : IntsNew [a, b] w (.returned (.slice (some ⟨w.heap.size, 0, none⟩) 2 2)) (w.alloc (.cells #[.int .i64 y, .int .i64 z] 3)) := by
  subst hy hz
  exact ⟨_, rfl, Own.lit #[.int .i64 (a : Nat), .int .i64 (b : Nat)] (Nat.le_refl _) (by simp [maxLen]), (Below.refl _ _).alloc (Nat.le_refl _) _⟩

set_option maxHeartbeats 4000000 in
theorem valuesM (c : Nat) (hc : c < 256) (lo : Bool) (w : World) : Calls Tryd.prog 45 #[.int .u8 (c : Nat), .bool lo] w (IntsNew (dmVals c lo) w) := by
  by_cases a1 : c = 32
  · subst a1
    have b1 : ((32 : Nat) : Int) = 32 := rfl
    go_enter Tryd.func45, Tryd.ntmps45
    go_wp2_with fail
    go_ret
    exact new1 _ 3 _ rfl
  have b1 : ¬ (c : Int) = 32 := by omega
  have HD := hid (digitM c hc w)
  by_cases a2 : isDig c = true
  · have e : dmVals c lo = [c - 44] := by unfold dmVals; rw [if_neg a1, if_pos a2]
    have hd : 48 ≤ c ∧ c ≤ 57 := by simpa [isDig] using a2
    rw [e]
    rw [a2] at HD
    obtain ⟨h1, h2⟩ := hd
    clear e a2
    go_enter Tryd.func45, Tryd.ntmps45
    go_wp2_with (go_at_call 43; ((with_reducible refine HD.out.mono ?_); rintro e w' ⟨rfl, rfl⟩))
    go_ret
    exact new1 _ _ _ (by go_num)
  have e2 : dmVals c lo = if c < 32 then [0, c] else if c ≤ 47 then [1, c - 33] else if c ≤ 64 then [1, c - 43]
    else if c ≤ 90 then (if lo = true then [2, c - 64] else [c - 51]) else if c ≤ 95 then [1, c - 69] else if 97 ≤ c ∧ c ≤ 122 ∧ lo = true then [c - 83] else [2, c - 96] := by
    rw [dmVals, if_neg a1, if_neg a2]
  rw [e2]
  clear e2
  rw [Bool.not_eq_true] at a2
  rw [a2] at HD
  clear a2
  by_cases c0 : c < 32
  · have d0 : (c : Int) < 32 := by omega
    rw [if_pos c0]
    go_enter Tryd.func45, Tryd.ntmps45
    go_wp2_with (go_at_call 43; ((with_reducible refine HD.out.mono ?_); rintro e w' ⟨rfl, rfl⟩))
    go_ret
    exact new2 _ _ _ _ _ rfl (by go_num)
  have d0 : ¬ (c : Int) < 32 := by omega
  rw [if_neg c0]
  by_cases c1 : c ≤ 47
  · have d1 : (c : Int) ≤ 47 := by omega
    rw [if_pos c1]
    go_enter Tryd.func45, Tryd.ntmps45
    go_wp2_with (go_at_call 43; ((with_reducible refine HD.out.mono ?_); rintro e w' ⟨rfl, rfl⟩))
    go_ret
    exact new2 _ _ _ _ _ rfl (by go_num)
  have d1 : ¬ (c : Int) ≤ 47 := by omega
  rw [if_neg c1]
  by_cases c2 : c ≤ 64
  · have d2 : (c : Int) ≤ 64 := by omega
    rw [if_pos c2]
    go_enter Tryd.func45, Tryd.ntmps45
    go_wp2_with (go_at_call 43; ((with_reducible refine HD.out.mono ?_); rintro e w' ⟨rfl, rfl⟩))
    go_ret
    exact new2 _ _ _ _ _ rfl (by go_num)
  have d2 : ¬ (c : Int) ≤ 64 := by omega
  rw [if_neg c2]
  by_cases c3 : c ≤ 90
  · have d3 : (c : Int) ≤ 90 := by omega
    rw [if_pos c3]
    cases lo
    · rw [if_neg (by simp)]
      go_enter Tryd.func45, Tryd.ntmps45
      go_wp2_with (go_at_call 43; ((with_reducible refine HD.out.mono ?_); rintro e w' ⟨rfl, rfl⟩))
      go_ret
      exact new1 _ _ _ (by go_num)
    · rw [if_pos rfl]
      go_enter Tryd.func45, Tryd.ntmps45
      go_wp2_with (go_at_call 43; ((with_reducible refine HD.out.mono ?_); rintro e w' ⟨rfl, rfl⟩))
      go_ret
      exact new2 _ _ _ _ _ rfl (by go_num)
  have d3 : ¬ (c : Int) ≤ 90 := by omega
  rw [if_neg c3]
  by_cases c4 : c ≤ 95
  · have d4 : (c : Int) ≤ 95 := by omega
    rw [if_pos c4]
    go_enter Tryd.func45, Tryd.ntmps45
    go_wp2_with (go_at_call 43; ((with_reducible refine HD.out.mono ?_); rintro e w' ⟨rfl, rfl⟩))
    go_ret
    exact new2 _ _ _ _ _ rfl (by go_num)
  have d4 : ¬ (c : Int) ≤ 95 := by omega
  rw [if_neg c4]
  by_cases c5 : 97 ≤ c
  · have d5 : decide ((97 : Int) ≤ (c : Int)) = true := by simp; omega
    by_cases c6 : c ≤ 122
    · have d6 : decide ((c : Int) ≤ 122) = true := by simp; omega
      cases lo
      · rw [if_neg (by simp)]
        go_enter Tryd.func45, Tryd.ntmps45
        go_wp2_with (go_at_call 43; ((with_reducible refine HD.out.mono ?_); rintro e w' ⟨rfl, rfl⟩))
        go_ret
        exact new2 _ _ _ _ _ rfl (by go_num)
      · rw [if_pos ⟨c5, c6, rfl⟩]
        go_enter Tryd.func45, Tryd.ntmps45
        go_wp2_with (go_at_call 43; ((with_reducible refine HD.out.mono ?_); rintro e w' ⟨rfl, rfl⟩))
        go_ret
        exact new1 _ _ _ (by go_num)
    · have d6 : decide ((c : Int) ≤ 122) = false := by simp; omega
      rw [if_neg (fun h => c6 h.2.1)]
      go_enter Tryd.func45, Tryd.ntmps45
      go_wp2_with (go_at_call 43; ((with_reducible refine HD.out.mono ?_); rintro e w' ⟨rfl, rfl⟩))
      go_ret
      exact new2 _ _ _ _ _ rfl (by go_num)
  · have d5 : decide ((97 : Int) ≤ (c : Int)) = false := by simp; omega
    rw [if_neg (fun h => c5 h.1)]
    go_enter Tryd.func45, Tryd.ntmps45
    go_wp2_with (go_at_call 43; ((with_reducible refine HD.out.mono ?_); rintro e w' ⟨rfl, rfl⟩))
    go_ret
    exact new2 _ _ _ _ _ rfl (by go_num)
end Go.Proofs.YtfmjkflihnfneaaDoor
