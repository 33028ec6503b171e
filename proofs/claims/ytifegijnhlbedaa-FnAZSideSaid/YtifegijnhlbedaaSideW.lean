/- The walks of FnAZSide: what each function that it reaches computes. -/
import Derived.Test.YtifegijnhlbedaaProg
import Derived.Test.YtifegijnhlbedaaMem
import Derived.BigQuiet
import Derived.Deep.QuietTactic
import Derived.KernelRfl
namespace Go.Proofs.Ytifegijnhlbedaa
open Go.RowKit
set_option linter.unusedVariables false

theorem info3 : (Try.prog.info? 3).map (fun i => (i.zero, i.size, i.bytes)) = some (some (.int .i64 0), 1, 8) := by kernel_rfl

set_option maxHeartbeats 400000 in
theorem azLayers_t (n : Int) (w : World) (h0 : 0 ≤ n) (h1 : n ≤ 255) :
    Calls Try.prog 8 #[.bool true, .int .u8 n] w fun e w' => e = .returned (.int .i64 (1 + n % 4)) ∧ w = w' := by
  go_enter Try.func8, Try.ntmps8
  go_wp2
  go_ret
  exact ⟨rfl, rfl⟩

set_option maxHeartbeats 400000 in
theorem azLayers_f (n : Int) (w : World) (h0 : 0 ≤ n) (h1 : n ≤ 255) :
    Calls Try.prog 8 #[.bool false, .int .u8 n] w fun e w' => e = .returned (.int .i64 (1 + n % 32)) ∧ w = w' := by
  go_enter Try.func8, Try.ntmps8
  go_wp2
  go_ret
  exact ⟨rfl, rfl⟩

set_option maxHeartbeats 400000 in
theorem implAZSide_t (l : Int) (w : World) (h0 : 1 ≤ l) (h1 : l ≤ 32) :
    Calls Try.prog 10 #[.bool true, .int .i64 l] w fun e w' => e = .returned (.int .i64 (4 * l + 11)) ∧ Below w.heap.size w w' := by
  go_enter Try.func10, Try.ntmps10
  go_wp2
  go_ret
  exact ⟨rfl, (Below.refl _ _).alloc (Nat.le_refl _) _⟩

set_option maxHeartbeats 400000 in
theorem implAZSide_f (l : Int) (w : World) (h0 : 1 ≤ l) (h1 : l ≤ 32) :
    Calls Try.prog 10 #[.bool false, .int .i64 l] w fun e w' => e = .returned (.int .i64 (4 * l + 2 * ((2 * l + 6) / 15) + 15)) ∧ Below w.heap.size w w' := by
  go_enter Try.func10, Try.ntmps10
  go_wp2
  go_quiet (fail)
  go_wp2
  go_ret
  exact ⟨rfl, below_drewN ((Below.refl _ _).alloc (Nat.le_refl _) _) _⟩

theorem specAZSide_t (l : Int) (w : World) (h0 : 1 ≤ l) (h1 : l ≤ 32) :
    Calls Try.prog 23 #[.bool true, .int .i64 l] w fun e w' => e = .returned (.int .i64 (11 + 4 * l)) ∧ w = w' := by
  go_enter Try.func23, Try.ntmps23
  go_wp2
  go_ret
  exact ⟨rfl, rfl⟩

theorem specAZSide_f (l : Int) (w : World) (h0 : 1 ≤ l) (h1 : l ≤ 32) :
    Calls Try.prog 23 #[.bool false, .int .i64 l] w fun e w' => e = .returned (.int .i64 (14 + 4 * l)) ∧ w = w' := by
  go_enter Try.func23, Try.ntmps23
  go_wp2
  go_ret
  exact ⟨rfl, rfl⟩

/-- What AZPlaces hands back, as far as FnAZSide looks: a slice, and how many modules the side has. -/
def SideOut (n : Int) (w : World) (e : Ending) (w' : World) : Prop := ∃ v, e = .returned (.tuple #[v, .int .i64 n]) ∧ Below w.heap.size w w'

/-- A row of so many cells. -/
def Row (w : World) (g n : Nat) : Prop := ∃ l, Arr w g 3 l ∧ l.length = n

set_option maxHeartbeats 400000 in
theorem AZPlaces_t (l : Nat) (w : World) (h0 : 1 ≤ l) (h1 : l ≤ 32) :
    Calls Try.prog 9 #[.bool true, .int .i64 l] w (SideOut (11 + 4 * (l : Int)) w) := by
  obtain ⟨i0, hi, hz0, hz1, hz2⟩ := info_parts info3
  have hmk := run_make (P := Try.prog) w 23 3 i0 (.int .i64 0) Try.underlying23 hi hz0 .i64 .i64 (11 + 4 * l) (11 + 4 * l) (by omega) (by omega) (by rw [hz2]; omega) (by omega)
  go_enter Try.func9, Try.ntmps9
  go_wp2_with (go_at_call 23; refine (specAZSide_t _ _ (by omega) (by omega)).mono ?_; rintro e w' ⟨rfl, rfl⟩)
  have hR : Row (w.alloc (.cells (madeCells #[.int .i64 0] (11 + 4 * l)) 3)) w.heap.size (11 + 4 * l) := ⟨_, Arr.made _ _ _ _, by simp⟩
  have hB : Below w.heap.size w (w.alloc (.cells (madeCells #[.int .i64 0] (11 + 4 * l)) 3)) := (Below.refl _ _).alloc (Nat.le_refl _) _
  generalize w.alloc (.cells (madeCells #[.int .i64 0] (11 + 4 * l)) 3) = w1 at hR hB ⊢
  clear hmk
  go_loopw [8] (fun i wr => ∃ k : Nat, k ≤ 11 + 4 * l ∧ i = .int .i64 k ∧ Row wr w.heap.size (11 + 4 * l) ∧ Below w.heap.size w wr) (fun i _ => 11 + 4 * l - (intOf i).toNat)
  case atStart => exact ⟨0, Nat.zero_le _, rfl, hR, hB⟩
  case round =>
    obtain ⟨k, hk, rfl, ⟨cs, hA, hcs⟩, hB⟩ := hrel
    by_cases hlt : k < 11 + 4 * l
    · obtain ⟨v, hc⟩ := hA.has k (by omega)
      have hf := hA.frozen k
      have hl' : (k : Int) < 11 + 4 * (l : Int) := by omega
      have HC := hid hcs
      clear hcs
      go_wp2
      go_roundw
      case rel => exact ⟨k + 1, by omega, by go_num, ⟨_, hA.set _ _, by simpa using HC.out⟩, hB.setCell (Nat.le_refl _) _⟩
      case measure => simp [intOf]; omega
    · have hl' : ¬ (k : Int) < 11 + 4 * (l : Int) := by omega
      clear hcs
      go_wp2
      go_ret2
      exact ⟨_, rfl, hB⟩

set_option maxHeartbeats 1000000 in
theorem AZPlaces_f (l : Nat) (w : World) (h0 : 1 ≤ l) (h1 : l ≤ 32) :
    Calls Try.prog 9 #[.bool false, .int .i64 l] w (SideOut (14 + 4 * (l : Int) + 1 + 2 * (((14 + 4 * l) / 2 - 1) / 15)) w) := by
  obtain ⟨i0, hi, hz0, hz1, hz2⟩ := info_parts info3
  have hmk := run_make (P := Try.prog) w 23 3 i0 (.int .i64 0) Try.underlying23 hi hz0 .i64 .i64 (14 + 4 * l) (14 + 4 * l) (by omega) (by omega) (by rw [hz2]; omega) (by omega)
  go_enter Try.func9, Try.ntmps9
  go_wp2_with (go_at_call 23; refine (specAZSide_f _ _ (by omega) (by omega)).mono ?_; rintro e w' ⟨rfl, rfl⟩)
  have hR : Row (w.alloc (.cells (madeCells #[.int .i64 0] (14 + 4 * l)) 3)) w.heap.size (14 + 4 * l) := ⟨_, Arr.made _ _ _ _, by simp⟩
  have hB : Below w.heap.size w (w.alloc (.cells (madeCells #[.int .i64 0] (14 + 4 * l)) 3)) := (Below.refl _ _).alloc (Nat.le_refl _) _
  generalize w.alloc (.cells (madeCells #[.int .i64 0] (14 + 4 * l)) 3) = w1 at hR hB ⊢
  clear hmk
  go_loopw [10, 11] (fun i _ wr => ∃ k : Nat, k ≤ 7 + 2 * l ∧ i = .int .i64 k ∧ Row wr w.heap.size (14 + 4 * l) ∧ Below w.heap.size w wr) (fun i _ _ => 7 + 2 * l - (intOf i).toNat)
  case atStart => exact ⟨0, Nat.zero_le _, rfl, hR, hB⟩
  case round =>
    obtain ⟨k, hk, rfl, ⟨cs, hA, hcs⟩, hB⟩ := hrel
    by_cases hlt : k < 7 + 2 * l
    · obtain ⟨v, hc⟩ := hA.has ((14 + 4 * l) / 2 - k - 1) (by omega)
      have hf := fun k => hA.frozen k
      have hl' : (k : Int) < (14 + 4 * (l : Int)) / 2 := by omega
      have hA' := fun v => hA.set ((14 + 4 * l) / 2 - k - 1) v
      have hc2 : ∀ v, ∃ u, (wr.setCell ⟨w.heap.size, (14 + 4 * l) / 2 - k - 1, none⟩ v).cell? ⟨w.heap.size, (14 + 4 * l) / 2 + k, none⟩ = some u := fun v => (hA' v).has _ (by simp; omega)
      obtain ⟨u, hc2⟩ := hc2 (.int .i64 ((14 + 4 * (l : Int) + 1 + 2 * (((14 + 4 * l) / 2 - 1) / 15)) / 2 - (k + k / 15) - 1))
      have HC := hid hcs
      clear hcs
      go_wp2
      go_roundw
      case rel => exact ⟨k + 1, by omega, by go_num, ⟨_, (hA' _).set _ _, by simpa using HC.out⟩, (hB.setCell (Nat.le_refl _) _).setCell (Nat.le_refl _) _⟩
      case measure => simp [intOf]; omega
    · have hl' : ¬ (k : Int) < (14 + 4 * (l : Int)) / 2 := by omega
      clear hcs
      go_wp2
      go_ret2
      exact ⟨_, rfl, hB⟩

theorem dim_eq (l : Int) (h0 : 1 ≤ l) : 4 * l + 2 * ((2 * l + 6) / 15) + 15 = 14 + 4 * l + 1 + 2 * (((14 + 4 * l) / 2 - 1) / 15) := by omega

set_option maxHeartbeats 400000 in
theorem FnAZSide_walk (a0 : Bool) (n : Int) (w1 : (Lit.int .u8 n).wf = true) (w : World) :
    Calls Try.prog 3 #[.bool a0, .int .u8 n] w fun e w' => e = .returned (.bool true) ∧ Below w.heap.size w w' := by
  obtain ⟨h0, h1⟩ := wf_u8 w1
  clear w1
  cases a0
  · obtain ⟨l, hl, hl0, hl1⟩ : ∃ l : Nat, (l : Int) = 1 + n % 32 ∧ 1 ≤ l ∧ l ≤ 32 := ⟨(1 + n % 32).toNat, by omega, by omega, by omega⟩
    have H := hid (dim_eq l (by omega))
    have HL := hid hl
    clear hl
    go_enter Try.func3, Try.ntmps3
    go_wp2_with fail
    refine (azLayers_f _ _ (by omega) (by omega)).mono ?_
    rintro e w' ⟨rfl, rfl⟩
    rw [← HL.out]
    go_wp2_with fail
    refine (AZPlaces_f _ _ hl0 hl1).mono ?_
    rintro e w1 ⟨v, rfl, hB⟩
    go_wp2_with fail
    refine (implAZSide_f _ _ (by omega) (by omega)).mono ?_
    rintro e w2 ⟨rfl, hB2⟩
    rw [H.out]
    go_wp2_with fail
    go_ret
    exact ⟨rfl, hB.trans (hB2.mono hB.size)⟩
  · obtain ⟨l, hl, hl0, hl1⟩ : ∃ l : Nat, (l : Int) = 1 + n % 4 ∧ 1 ≤ l ∧ l ≤ 32 := ⟨(1 + n % 4).toNat, by omega, by omega, by omega⟩
    have HL := hid hl
    clear hl
    go_enter Try.func3, Try.ntmps3
    go_wp2_with fail
    refine (azLayers_t _ _ (by omega) (by omega)).mono ?_
    rintro e w' ⟨rfl, rfl⟩
    rw [← HL.out]
    go_wp2_with fail
    refine (AZPlaces_t _ _ hl0 hl1).mono ?_
    rintro e w1 ⟨v, rfl, hB⟩
    go_wp2_with fail
    refine (implAZSide_t _ _ (by omega) (by omega)).mono ?_
    rintro e w2 ⟨rfl, hB2⟩
    rw [show 4 * (l : Int) + 11 = 11 + 4 * l from by omega]
    go_wp2_with fail
    go_ret
    exact ⟨rfl, hB.trans (hB2.mono hB.size)⟩

end Go.Proofs.Ytifegijnhlbedaa
