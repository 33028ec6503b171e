/- decoder.NewVersion (func 69). -/
import Derived.Test.YtpffffhgmhpkiaaVerW
namespace Go.Proofs.Ytpffffhgmhpkiaa
open Go.RowKit
set_option linter.unusedVariables false
attribute [local go_sem ↓] Go.wp_at_zero Go.wp_at_succ

/-- A version's cells. -/
def VerNew (v : Nat) (sc se : Value) (w : World) (e : Ending) (w' : World) : Prop :=
  ∃ (q : Nat) (z : Int), e = .returned (.pointer (some ⟨q, 0, none⟩)) ∧ w.heap.size ≤ q ∧ Arr w' q 136 [.int .i64 v, sc, se, .int .i64 z] ∧ Below w.heap.size w w'

/-- The cells of a level's blocks. -/
def flatB : List (Nat × Nat) → List Value
  | [] => []
  | (a, b) :: l => .int .i64 a :: .int .i64 b :: flatB l
theorem flatB_len (l : List (Nat × Nat)) : (flatB l).length = 2 * l.length := by
  induction l with
  | nil => rfl
  | cons p l ih => obtain ⟨a, b⟩ := p; simp [flatB, ih]; omega
theorem flatB_at : ∀ (l : List (Nat × Nat)) (i : Nat), i < l.length → (flatB l)[i * 2]? = some (.int .i64 ((l.getD i (0, 0)).1 : Nat)) ∧ (flatB l)[i * 2 + 1]? = some (.int .i64 ((l.getD i (0, 0)).2 : Nat))
  | [], i, h => by simp at h
  | (a, b) :: l, 0, _ => ⟨rfl, rfl⟩
  | (a, b) :: l, i + 1, h => by
    have := flatB_at l i (by simpa using h)
    rw [show (i + 1) * 2 = i * 2 + 1 + 1 from by omega]
    simpa [flatB] using this

set_option maxRecDepth 20000 in
set_option maxHeartbeats 4000000 in
theorem newVer (v kc E b k : Nat) (A : Option Addr) (x : Int) (l : List (Nat × Nat)) (w : World) (hE0 : w.cell? ⟨E, 0, none⟩ = some (.int .i64 x)) (hE1 : w.cell? ⟨E, 1, none⟩ = some (.slice (some ⟨b, 0, none⟩) k k)) (hEl : E < w.heap.size) (hB : Arr w b 194 (flatB l)) (hk : l.length = k) (hk2 : k ≤ 2) :
    Calls Try.prog 119 #[.int .i64 v, .slice A kc kc, .slice (some ⟨E, 0, none⟩) 4 4] w (VerNew v (.slice A kc kc) (.slice (some ⟨E, 0, none⟩) 4 4) w) := by
  have e1 := ecWords E 0 x w hE0
  have e2 := ecBlocks E 0 (some ⟨b, 0, none⟩) k k w hE1
  have hBl := hB.lt
  have HB := hid hB
  clear hB hE0 hE1
  go_enter Try.func119, Try.ntmps119
  go_wp2_with fail
  refine e1.mono ?_
  rintro e w1 ⟨rfl, rfl⟩
  clear e1
  go_wp2_with fail
  refine e2.mono ?_
  rintro e w1 ⟨rfl, rfl⟩
  clear e2
  go_wp2_with fail
  go_loopw [7, 20] (fun tv iv wr => ∃ (z : Int) (i : Nat), i ≤ k ∧ tv = .int .i64 z ∧ iv = .int .i64 (i : Nat) ∧ Below w.heap.size w wr) (fun _ iv _ => k - (intOf iv).toNat)
  case atStart => exact ⟨0, 0, by omega, rfl, rfl, Below.refl _ _⟩
  case round =>
    obtain ⟨z, i, hi, rfl, rfl, hb⟩ := hrel
    have HR := hid hb
    clear hb
    by_cases hlt : i < k
    · have hlt' : (i : Int) < (k : Int) := by omega
      have hA := HB.out.below HR.out hBl
      have c0 := (hA.cell? (i * 2)).trans (flatB_at l i (by omega)).1
      have c1 := (hA.cell? (i * 2 + 1)).trans (flatB_at l i (by omega)).2
      clear hA
      generalize ((l.getD i (0, 0)).1 : Int) = n1 at *
      generalize ((l.getD i (0, 0)).2 : Int) = n2 at *
      have HR2 := hid (HR.out.alloc HR.out.size (.cells #[.int .i64 n1, .int .i64 n2] 194))
      have g1 := fun W => getCount n1 n2 W
      have g2 := fun W => getData n1 n2 W
      go_wp2_with fail
      go_region_with ((first
        | (go_at_call 135; ((with_reducible refine (g1 _).mono ?_); rintro e w5 ⟨rfl, rfl⟩))
        | (go_at_call 136; ((with_reducible refine (g2 _).mono ?_); rintro e w5 ⟨rfl, rfl⟩))))
      all_goals (
        go_wp2
        go_roundw
        case rel => exact ⟨_, i + 1, by omega, rfl, by go_num, below_drewN (((HR2.out.alloc HR2.out.size (.cells #[.int .i64 n1, .int .i64 n2] 194)).alloc (HR2.out.alloc HR2.out.size (.cells #[.int .i64 n1, .int .i64 n2] 194)).size (.cells #[.int .i64 n1, .int .i64 n2] 194))) 1⟩
        case measure => simp [intOf]; omega)
    · obtain rfl : i = k := by omega
      have hlt' : ¬ (i : Int) < (i : Int) := by omega
      have hA := Arr.of_new wr 136 #[.int .i64 v, .slice A kc kc, .slice (some ⟨E, 0, none⟩) 4 4, .int .i64 z]
      have HA := hid hA
      have HR2 := hid (HR.out.alloc HR.out.size (.cells #[.int .i64 v, .slice A kc kc, .slice (some ⟨E, 0, none⟩) 4 4, .int .i64 z] 136))
      clear hA
      go_wp2_with fail
      go_ret
      exact ⟨_, z, rfl, HR.out.size, HA.out, HR2.out⟩
end Go.Proofs.Ytpffffhgmhpkiaa
