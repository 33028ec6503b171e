/- The reader's small functions: numbers, tables, two bytes, one byte of the bit source. -/
import Derived.Test.YtfmjkflihnfneaaDoorDnH
import Derived.Test.YtfmjkflihnfneaaDoorDmA
namespace Go.Proofs.YtfmjkflihnfneaaDoor
open Go.RowKit
set_option linter.unusedVariables false
set_option linter.unusedSimpArgs false

/-- A number below 100 in digits. -/
def numL (d : Nat) : List Nat := if d < 10 then [48 + d] else [48 + d / 10, 48 + d % 10]
def digL : List Nat := [48, 49, 50, 51, 52, 53, 54, 55, 56, 57, 97, 98, 99, 100, 101, 102, 103, 104, 105, 106, 107, 108, 109, 110, 111, 112, 113, 114, 115, 116, 117, 118, 119, 120, 121, 122]
def digL2 : List Nat := (List.range 100).flatMap fun i => [48 + i / 10, 48 + i % 10]
theorem dig1 (d : Nat) (h : d < 10) : (strOf digL).extract d (d + 1) = strOf [48 + d] := by
  have h9 : ((List.range 10).all fun d => decide ((digL.drop d).take 1 = [48 + d])) = true := by decide +kernel
  have := List.all_eq_true.1 h9 d (List.mem_range.2 h)
  rw [strOf_ext, show d + 1 - d = 1 from by omega, of_decide_eq_true this]
theorem dig2 (d : Nat) (h : d < 100) : (strOf digL2).extract (d * 2) (d * 2 + 2) = strOf [48 + d / 10, 48 + d % 10] := by
  have h9 : ((List.range 100).all fun d => decide ((digL2.drop (d * 2)).take 2 = [48 + d / 10, 48 + d % 10])) = true := by decide +kernel
  have := List.all_eq_true.1 h9 d (List.mem_range.2 h)
  rw [strOf_ext, show d * 2 + 2 - d * 2 = 2 from by omega, of_decide_eq_true this]
set_option maxRecDepth 20000 in
theorem smallM (d : Nat) (hd : d < 100) (w : World) : Calls Tryd.prog 64 #[.int .i64 (d : Nat)] w (fun e w' => e = .returned (.string (strOf (numL d))) ∧ w = w') := by
  by_cases h : d < 10
  · have h' : (d : Int) < 10 := by omega
    have e1 : ((d : Int) + 1).toNat = d + 1 := by omega
    go_enter Tryd.func64, Tryd.ntmps64
    go_wp2_with fail
    go_ret
    refine ⟨?_, rfl⟩
    unfold numL
    rw [if_pos h, ← dig1 d h]
    rfl
  · have h' : ¬ (d : Int) < 10 := by omega
    have e1 : ((d : Int) * 2).toNat = d * 2 := by omega
    have e2 : ((d : Int) * 2 + 2).toNat = d * 2 + 2 := by omega
    go_enter Tryd.func64, Tryd.ntmps64
    go_wp2_with fail
    go_ret
    refine ⟨?_, rfl⟩
    unfold numL
    rw [if_neg h, ← dig2 d hd]
    rfl
theorem tabs_eq : (u8s (basL 1)).length = 40 ∧ (u8s (basL 2)).length = 40 ∧ (u8s set2L).length = 27 ∧ (u8s set3L).length = 32 := by decide
def TabOut (l : List Nat) (w : World) (e : Ending) (w' : World) : Prop := e = .returned (.slice (some ⟨w.heap.size, 0, none⟩) l.length l.length) ∧ w' = w.alloc (.cells (u8s l).toArray 5)
set_option maxRecDepth 20000 in
theorem tab51 (w : World) : Calls Tryd.prog 51 #[] w (TabOut (basL 1) w) := by
  go_enter Tryd.func51, Tryd.ntmps51
  go_wp2_with fail
  go_ret
  exact ⟨by rfl, by rfl⟩
set_option maxRecDepth 20000 in
theorem tab53 (w : World) : Calls Tryd.prog 53 #[] w (TabOut (basL 2) w) := by
  go_enter Tryd.func53, Tryd.ntmps53
  go_wp2_with fail
  go_ret
  exact ⟨by rfl, by rfl⟩
set_option maxRecDepth 20000 in
theorem tab52 (w : World) : Calls Tryd.prog 52 #[] w (TabOut set2L w) := by
  go_enter Tryd.func52, Tryd.ntmps52
  go_wp2_with fail
  go_ret
  exact ⟨by rfl, by rfl⟩
set_option maxRecDepth 20000 in
theorem tab55 (w : World) : Calls Tryd.prog 55 #[] w (TabOut set3L w) := by
  go_enter Tryd.func55, Tryd.ntmps55
  go_wp2_with fail
  go_ret
  exact ⟨by rfl, by rfl⟩
set_option maxRecDepth 20000 in
theorem tab54 (w : World) : Calls Tryd.prog 54 #[] w (TabOut set2L w) := by
  have H := tab52 w
  go_enter Tryd.func54, Tryd.ntmps54
  go_wp2_with fail
  refine H.mono ?_
  rintro e w1 ⟨rfl, rfl⟩
  clear H
  go_wp2_with fail
  go_ret
  exact ⟨rfl, rfl⟩
set_option maxRecDepth 20000 in
theorem unrandM (c p : Nat) (hc : c < 256) (hp : p ≤ 1000000) (w : World) : Calls Tryd.prog 58 #[.int .i64 (mix c p : Nat), .int .i64 (p : Nat)] w (fun e w' => e = .returned (.int .i64 (c : Nat)) ∧ w = w') := by
  obtain ⟨q, hq⟩ : ∃ q, q = 149 * p % 255 := ⟨_, rfl⟩
  have e0 : 149 * (p : Int) % 255 = (q : Nat) := by rw [hq, Int.natCast_emod, Int.natCast_mul]; rfl
  have hm : mix c p = (c + q + 1) % 256 := by rw [mix, hq]
  have hql : q < 255 := by rw [hq]; exact Nat.mod_lt _ (by decide)
  generalize mix c p = m at *
  clear hq
  by_cases h : c + q + 1 < 256
  · have em : (m : Int) - ((q : Int) + 1) = (c : Nat) := by omega
    have hge2 : 0 ≤ ((c : Nat) : Int) := by omega
    clear hm
    go_enter Tryd.func58, Tryd.ntmps58
    go_wp2_with fail
    go_ret
    exact ⟨rfl, rfl⟩
  · have em : (m : Int) - ((q : Int) + 1) = (c : Nat) - 256 := by omega
    have hge2 : ¬ 0 ≤ ((c : Nat) : Int) - 256 := by omega
    clear hm
    go_enter Tryd.func58, Tryd.ntmps58
    go_wp2_with fail
    go_ret
    exact ⟨by first | rfl | (simp), rfl⟩
theorem byteOff (q : Nat) (A : Option Addr) (n c p : Nat) (w : World) (h : Src w q A n c p) :
    Calls Tryd.prog 57 #[.pointer (some ⟨q, 0, none⟩)] w fun e w' => e = .returned (.int .i64 (p / 8 : Nat)) ∧ w = w' := by
  unfold Src at h
  have d1 := h.cell? 1
  try simp only at d1
  generalize p / 8 = a at *
  clear h
  go_enter Tryd.func57, Tryd.ntmps57
  go_wp2_with fail
  go_ret
  exact ⟨rfl, rfl⟩
theorem bitOff (q : Nat) (A : Option Addr) (n c p : Nat) (w : World) (h : Src w q A n c p) :
    Calls Tryd.prog 56 #[.pointer (some ⟨q, 0, none⟩)] w fun e w' => e = .returned (.int .i64 (p % 8 : Nat)) ∧ w = w' := by
  unfold Src at h
  have d2 := h.cell? 2
  try simp only at d2
  generalize p % 8 = a at *
  clear h
  go_enter Tryd.func56, Tryd.ntmps56
  go_wp2_with fail
  go_ret
  exact ⟨rfl, rfl⟩
theorem newSrc (A : Option Addr) (n c : Nat) (w : World) : Calls Tryd.prog 32 #[.slice A n c] w fun e w' => e = .returned (.pointer (some ⟨w.heap.size, 0, none⟩)) ∧ Src w' w.heap.size A n c 0 ∧ Below w.heap.size w w' ∧ w'.heap.size = w.heap.size + 1 := by
  go_enter Tryd.func32, Tryd.ntmps32
  go_wp2_with fail
  go_ret
  exact ⟨rfl, Arr.of_new w 88 #[.slice A n c, .int .i64 0, .int .i64 0], (Below.refl _ _).alloc (Nat.le_refl _) _, by simp⟩
end Go.Proofs.YtfmjkflihnfneaaDoor
