/- combins, RVSum, rvMany, RVValue: the walks. -/
import Derived.Test.YtifegijnhlbedaaProg
import Derived.Test.YtifegijnhlbedaaMem
import Derived.Test.YtifegijnhlbedaaRvL
import Derived.KernelRfl
import Derived.Deep.LoopGhost
namespace Go.Proofs.Ytifegijnhlbedaa
open Go.RowKit
set_option linter.unusedVariables false

theorem comb0 (n : Nat) (hn : n ≤ 20) (w : World) : Calls Try.prog 37 #[.int .i64 n, .int .i64 0] w fun e w' => e = .returned (.int .i64 (cb n 0 : Nat)) ∧ w = w' := by
  have E := hid (show cb n 0 = 1 from rfl)
  generalize cb n 0 = v at *
  by_cases h0 : 0 < n
  all_goals
    go_enter Try.func37, Try.ntmps37
    go_wp2
    go_loop [7, 8, 9] (fun vv jv iv => vv = .int .i64 1 ∧ jv = .int .i64 1 ∧ iv = .int .i64 n) (fun _ _ _ => 0)
    case atStart => exact ⟨rfl, rfl, rfl⟩
    case round =>
      obtain ⟨rfl, rfl, rfl⟩ := hrel
      go_wp2
      go_loop [7, 8] (fun vv jv => vv = .int .i64 1 ∧ jv = .int .i64 1) (fun _ _ => 0)
      case atStart => exact ⟨rfl, rfl⟩
      case round =>
        obtain ⟨rfl, rfl⟩ := hrel
        go_wp2
        go_ret
        exact ⟨by rw [E.out]; rfl, rfl⟩
theorem comb1 (n : Nat) (h1 : 1 ≤ n) (hn : n ≤ 20) (w : World) : Calls Try.prog 37 #[.int .i64 n, .int .i64 1] w fun e w' => e = .returned (.int .i64 (cb n 1 : Nat)) ∧ w = w' := by
  have E := hid (show cb n 1 = n from rfl)
  generalize cb n 1 = v at *
  by_cases h2 : 2 < n
  all_goals
    go_enter Try.func37, Try.ntmps37
    go_wp2
    go_loop [7, 8, 9] (fun vv jv iv => (vv = .int .i64 1 ∧ jv = .int .i64 1 ∧ iv = .int .i64 n) ∨ (vv = .int .i64 n ∧ jv = .int .i64 2 ∧ iv = .int .i64 ((n : Int) - 1))) (fun _ jv _ => (2 - intOf jv).toNat)
    case atStart => exact .inl ⟨rfl, rfl, rfl⟩
    case round =>
      rcases hrel with ⟨rfl, rfl, rfl⟩ | ⟨rfl, rfl, rfl⟩
      · go_wp2
        go_round
        case rel => exact .inr ⟨by go_num, rfl, rfl⟩
        case measure => simp [intOf]
      · go_wp2
        go_loop [7, 8] (fun vv jv => vv = .int .i64 n ∧ jv = .int .i64 2) (fun _ _ => 0)
        case atStart => exact ⟨rfl, rfl⟩
        case round =>
          obtain ⟨rfl, rfl⟩ := hrel
          go_wp2
          go_ret
          exact ⟨by rw [E.out]; rfl, rfl⟩
theorem comb2 (n : Nat) (h1 : 2 ≤ n) (hn : n ≤ 20) (w : World) : Calls Try.prog 37 #[.int .i64 n, .int .i64 2] w fun e w' => e = .returned (.int .i64 (cb n 2 : Nat)) ∧ w = w' := by
  have hp : (n : Int) * ((n : Int) - 1) = ((n * (n - 1) : Nat) : Int) := by rw [Int.natCast_mul, Int.natCast_sub (by omega)]; rfl
  have hb : n * (n - 1) ≤ 20 * 20 := Nat.mul_le_mul hn (by omega)
  have E : Hid (cb n 2 = n * (n - 1) / 2) := hid rfl
  generalize cb n 2 = v at *
  generalize n * (n - 1) = m at *
  by_cases h2 : 4 < n
  all_goals
    go_enter Try.func37, Try.ntmps37
    go_wp2
    go_loop [7, 8, 9] (fun vv jv iv => (vv = .int .i64 1 ∧ jv = .int .i64 1 ∧ iv = .int .i64 n) ∨ (vv = .int .i64 n ∧ jv = .int .i64 2 ∧ iv = .int .i64 ((n : Int) - 1)) ∨ (vv = .int .i64 ((m : Int) / 2) ∧ jv = .int .i64 3 ∧ iv = .int .i64 ((n : Int) - 2))) (fun _ jv _ => (3 - intOf jv).toNat)
    case atStart => exact .inl ⟨rfl, rfl, rfl⟩
    case round =>
      rcases hrel with ⟨rfl, rfl, rfl⟩ | ⟨rfl, rfl, rfl⟩ | ⟨rfl, rfl, rfl⟩
      · go_wp2
        go_round
        case rel => exact .inr (.inl ⟨by go_num, rfl, rfl⟩)
        case measure => simp [intOf]
      · go_wp2
        go_round
        case rel => exact .inr (.inr ⟨by go_num, rfl, by go_num⟩)
        case measure => simp [intOf]
      · go_wp2
        go_loop [7, 8] (fun vv jv => vv = .int .i64 ((m : Int) / 2) ∧ jv = .int .i64 3) (fun _ _ => 0)
        case atStart => exact ⟨rfl, rfl⟩
        case round =>
          obtain ⟨rfl, rfl⟩ := hrel
          go_wp2
          go_ret
          exact ⟨by rw [E.out]; go_num, rfl⟩
end Go.Proofs.Ytifegijnhlbedaa
