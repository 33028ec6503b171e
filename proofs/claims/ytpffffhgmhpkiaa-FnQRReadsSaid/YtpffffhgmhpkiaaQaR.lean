/- QR codes: the parser's small functions: copyBit, ErrorCorrectionLevel_ForBits, newFormatInformation, the table of formats, doDecodeFormatInformation, DecodeFormatInformation. -/
import Derived.Test.YtpffffhgmhpkiaaQaA
import Derived.Test.YtpffffhgmhpkiaaMatP
import Derived.Test.YtpffffhgmhpkiaaDecV
namespace Go.Proofs.Ytpffffhgmhpkiaa
open Go.RowKit
set_option linter.unusedVariables false

set_option maxRecDepth 20000 in
theorem levelBits (k : Nat) (hk : k < 4) (w : World) : Calls Try.prog 158 #[.int .u64 k] w fun e w' => e = .returned (.tuple #[.int .i64 k, Value.nilIface]) ∧ w = w' := by
  rcases (show k = 0 ∨ k = 1 ∨ k = 2 ∨ k = 3 by omega) with rfl | rfl | rfl | rfl
  all_goals (
    go_enter Try.func158, Try.ntmps158
    go_wp2_with fail
    go_ret2
    exact ⟨rfl, rfl⟩)
/-- A format in memory. -/
def FormOut (k : Nat) (w : World) (e : Ending) (w' : World) : Prop := ∃ q, e = .returned (.pointer (some ⟨q, 0, none⟩)) ∧ w'.cell? ⟨q, 0, none⟩ = some (.int .i64 ((k : Int) / 8)) ∧ w'.cell? ⟨q, 1, none⟩ = some (.int .u8 ((k : Int) % 8)) ∧ q < w'.heap.size ∧ Below w.heap.size w w'
set_option maxRecDepth 20000 in
theorem newForm (k : Nat) (hk : k < 32) (w : World) : Calls Try.prog 132 #[.int .u64 k] w (FormOut k w) := by
  have lb := fun W => levelBits (k / 8) (by omega) W
  have a1 : bits .and .u64 ((k : Int) / 8) 3 = ((k / 8 : Nat) : Int) := by
    have := u64_and (k / 8) 3 (by omega) (by omega)
    rw [show k / 8 &&& 3 = (k / 8) % 2 ^ 2 from Nat.and_two_pow_sub_one_eq_mod (k / 8) 2, Nat.mod_eq_of_lt (by omega)] at this
    rw [← this]; rfl
  have a2 : bits .and .u64 (k : Int) 7 = ((k % 8 : Nat) : Int) := by
    have := u64_and k 7 (by omega) (by omega)
    rw [show k &&& 7 = k % 2 ^ 3 from Nat.and_two_pow_sub_one_eq_mod k 3] at this
    rw [← this]; rfl
  have HA := hid (Arr.of_new w 138 #[.int .i64 ((k : Int) / 8), .int .u8 ((k : Int) % 8)])
  have HB := hid ((Below.refl w.heap.size w).alloc (Nat.le_refl _) (.cells #[.int .i64 ((k : Int) / 8), .int .u8 ((k : Int) % 8)] 138))
  go_enter Try.func132, Try.ntmps132
  go_wp2_with fail
  refine (lb _).mono ?_
  rintro e w1 ⟨rfl, rfl⟩
  go_wp2_with fail
  go_ret
  exact ⟨_, rfl, HA.out.cell? 0, HA.out.cell? 1, HA.out.lt, HB.out⟩

/-- The table of formats, as it is laid. -/
def tabW (w : World) : Nat → World
  | 0 => w
  | i + 1 => (tabW w i).alloc (.cells #[.int .u64 (fb i : Nat), .int .u64 (i : Nat)] 59)
theorem tabW_size (w : World) : ∀ i, (tabW w i).heap.size = w.heap.size + i
  | 0 => rfl
  | i + 1 => by rw [tabW, World.size_alloc, tabW_size w i]; omega
theorem tabW_below (w : World) : ∀ i, Below w.heap.size w (tabW w i)
  | 0 => Below.refl _ _
  | i + 1 => (tabW_below w i).alloc (by rw [tabW_size]; omega) _
theorem tabW_at (w : World) : ∀ i j, j < i → Arr (tabW w i) (w.heap.size + j) 59 [.int .u64 (fb j : Nat), .int .u64 (j : Nat)]
  | 0, j, h => by omega
  | i + 1, j, h => by
    rcases Nat.lt_or_ge j i with hj | hj
    · exact (tabW_at w i j hj).alloc _
    · obtain rfl : j = i := by omega
      have := Arr.of_new (tabW w j) 59 #[.int .u64 (fb j : Nat), .int .u64 (j : Nat)]
      rw [tabW_size] at this
      exact this
def ForTab (w : World) (e : Ending) (w' : World) : Prop :=
  ∃ G, e = .returned (.slice (some ⟨G, 0, none⟩) 32 32) ∧ G < w'.heap.size ∧ Below w.heap.size w w' ∧
    ∀ i, i < 32 → ∃ g, g < w'.heap.size ∧ w'.cell? ⟨G, i, none⟩ = some (.slice (some ⟨g, 0, none⟩) 2 2) ∧ w'.cell? ⟨g, 0, none⟩ = some (.int .u64 (fb i : Nat)) ∧ w'.cell? ⟨g, 1, none⟩ = some (.int .u64 (i : Nat))
set_option maxRecDepth 20000 in
set_option maxHeartbeats 8000000 in
theorem forTab (w : World) : Calls Try.prog 131 #[] w (ForTab w) := by
  have key : ∀ (W : World), W = (tabW w 32).alloc (.cells ((List.range 32).map fun i => Value.slice (some ⟨w.heap.size + i, 0, none⟩) 2 2).toArray 221) → ForTab w (.returned (.slice (some ⟨w.heap.size + 32, 0, none⟩) 32 32)) W := fun W hW => by
    subst hW
    have hA := Arr.of_new (tabW w 32) 221 ((List.range 32).map fun i => Value.slice (some ⟨w.heap.size + i, 0, none⟩) 2 2).toArray
    rw [tabW_size] at hA
    refine ⟨w.heap.size + 32, rfl, hA.lt, (tabW_below w 32).alloc (by rw [tabW_size]; omega) _, fun i hi => ?_⟩
    have hg := (tabW_at w 32 i hi).alloc (.cells ((List.range 32).map fun i => Value.slice (some ⟨w.heap.size + i, 0, none⟩) 2 2).toArray 221)
    refine ⟨w.heap.size + i, hg.lt, ?_, hg.cell? 0, hg.cell? 1⟩
    rw [hA.cell? i]
    simp [List.getElem?_range hi]
  have KEY := hid key
  clear key
  go_enter Try.func131, Try.ntmps131
  go_wp2_with fail
  go_ret
  exact KEY.out _ rfl
end Go.Proofs.Ytpffffhgmhpkiaa
