/- The masks of a symbol: the package's functions, and the reference's condition. -/
import Derived.Test.YtjgckbccbambmaaMatR
import Derived.Test.YtjgckbccbambmaaCellW
namespace Go.Proofs.Ytjgckbccbambmaa
open Go.RowKit
set_option linter.unusedVariables false

/-- The module at column x, row y is turned by mask m. -/
def mBit (m x y : Nat) : Bool :=
  if m = 0 then (x + y) % 2 == 0
  else if m = 1 then y % 2 == 0
  else if m = 2 then x % 3 == 0
  else if m = 3 then (x + y) % 3 == 0
  else if m = 4 then (y / 2 + x / 3) % 2 == 0
  else if m = 5 then (x * y) % 2 + (x * y) % 3 == 0
  else if m = 6 then ((x * y) % 2 + (x * y) % 3) % 2 == 0
  else ((x + y) % 2 + (x * y) % 3) % 2 == 0
theorem and_1 (a : Nat) (h : a < 9223372036854775808) : bits .and .i64 (a : Int) 1 = ((a % 2 : Nat) : Int) := by
  have := i64_and a 1 h (by omega)
  rwa [Nat.and_one_is_mod] at this

set_option maxHeartbeats 1000000 in
theorem mask0 (x y : Nat) (w : World) (hx : x ≤ 60) (hy : y ≤ 60) : Calls Try.prog 58 #[.int .i64 y, .int .i64 x] w fun e w' => e = .returned (.bool (mBit 0 x y)) ∧ w = w' := by
  have ha := and_1 (y + x) (by omega)
  have e1 : (((y : Int) + (x : Int))) = ((y + x : Nat) : Int) := by omega
  rw [← e1] at ha
  clear e1
  have hb : (((y : Int) + (x : Int)) % 2 == 0) = mBit 0 x y := by rw [Bool.eq_iff_iff]; simp [mBit]; omega
  generalize mBit 0 x y = b at *
  go_enter Try.func58, Try.ntmps58
  go_wp2
  go_ret
  exact ⟨rfl, rfl⟩

set_option maxHeartbeats 1000000 in
theorem mask1 (x y : Nat) (w : World) (hx : x ≤ 60) (hy : y ≤ 60) : Calls Try.prog 59 #[.int .i64 y, .int .i64 x] w fun e w' => e = .returned (.bool (mBit 1 x y)) ∧ w = w' := by
  have ha := and_1 y (by omega)
  have hb : ((y : Int) % 2 == 0) = mBit 1 x y := by rw [Bool.eq_iff_iff]; simp [mBit]; omega
  generalize mBit 1 x y = b at *
  go_enter Try.func59, Try.ntmps59
  go_wp2
  go_ret
  exact ⟨rfl, rfl⟩

set_option maxHeartbeats 1000000 in
theorem mask2 (x y : Nat) (w : World) (hx : x ≤ 60) (hy : y ≤ 60) : Calls Try.prog 60 #[.int .i64 y, .int .i64 x] w fun e w' => e = .returned (.bool (mBit 2 x y)) ∧ w = w' := by
  have hb : ((x : Int) % 3 == 0) = mBit 2 x y := by rw [Bool.eq_iff_iff]; simp [mBit]; omega
  generalize mBit 2 x y = b at *
  go_enter Try.func60, Try.ntmps60
  go_wp2
  go_ret
  exact ⟨rfl, rfl⟩

set_option maxHeartbeats 1000000 in
theorem mask3 (x y : Nat) (w : World) (hx : x ≤ 60) (hy : y ≤ 60) : Calls Try.prog 61 #[.int .i64 y, .int .i64 x] w fun e w' => e = .returned (.bool (mBit 3 x y)) ∧ w = w' := by
  have hb : (((y : Int) + (x : Int)) % 3 == 0) = mBit 3 x y := by rw [Bool.eq_iff_iff]; simp [mBit]; omega
  generalize mBit 3 x y = b at *
  go_enter Try.func61, Try.ntmps61
  go_wp2
  go_ret
  exact ⟨rfl, rfl⟩

set_option maxHeartbeats 1000000 in
theorem mask4 (x y : Nat) (w : World) (hx : x ≤ 60) (hy : y ≤ 60) : Calls Try.prog 62 #[.int .i64 y, .int .i64 x] w fun e w' => e = .returned (.bool (mBit 4 x y)) ∧ w = w' := by
  have ha := and_1 (y / 2 + x / 3) (by omega)
  have e1 : (((y : Int) / 2 + (x : Int) / 3)) = ((y / 2 + x / 3 : Nat) : Int) := by omega
  rw [← e1] at ha
  clear e1
  have hb : (((y : Int) / 2 + (x : Int) / 3) % 2 == 0) = mBit 4 x y := by rw [Bool.eq_iff_iff]; simp [mBit]; omega
  generalize mBit 4 x y = b at *
  go_enter Try.func62, Try.ntmps62
  go_wp2
  go_ret
  exact ⟨rfl, rfl⟩

set_option maxHeartbeats 1000000 in
theorem mask5 (x y : Nat) (w : World) (hx : x ≤ 60) (hy : y ≤ 60) : Calls Try.prog 63 #[.int .i64 y, .int .i64 x] w fun e w' => e = .returned (.bool (mBit 5 x y)) ∧ w = w' := by
  have hP : x * y ≤ 3600 := Nat.mul_le_mul hx hy
  have hp1 : IntKind.i64.wrap ((y : Int) * (x : Int)) = ((x * y : Nat) : Int) := by
    rw [show (y : Int) * (x : Int) = ((x * y : Nat) : Int) from by simp [Int.mul_comm]]
    exact IntWalk.i64_in _ ⟨by omega, by omega⟩
  have hb : (((x * y : Nat) : Int) % 6 == 0) = mBit 5 x y := by
    unfold mBit
    generalize x * y = P at *
    rw [Bool.eq_iff_iff]; simp; omega
  generalize mBit 5 x y = b at *
  generalize x * y = P at *
  go_enter Try.func63, Try.ntmps63
  go_wp2
  go_ret
  exact ⟨rfl, rfl⟩

set_option maxHeartbeats 1000000 in
theorem mask6 (x y : Nat) (w : World) (hx : x ≤ 60) (hy : y ≤ 60) : Calls Try.prog 64 #[.int .i64 y, .int .i64 x] w fun e w' => e = .returned (.bool (mBit 6 x y)) ∧ w = w' := by
  have hP : x * y ≤ 3600 := Nat.mul_le_mul hx hy
  have hp1 : IntKind.i64.wrap ((y : Int) * (x : Int)) = ((x * y : Nat) : Int) := by
    rw [show (y : Int) * (x : Int) = ((x * y : Nat) : Int) from by simp [Int.mul_comm]]
    exact IntWalk.i64_in _ ⟨by omega, by omega⟩
  have hb : decide (((x * y : Nat) : Int) % 6 < 3) = mBit 6 x y := by
    unfold mBit
    generalize x * y = P at *
    rw [Bool.eq_iff_iff]; simp; omega
  generalize mBit 6 x y = b at *
  generalize x * y = P at *
  go_enter Try.func64, Try.ntmps64
  go_wp2
  go_ret
  exact ⟨rfl, rfl⟩

set_option maxHeartbeats 1000000 in
theorem mask7 (x y : Nat) (w : World) (hx : x ≤ 60) (hy : y ≤ 60) : Calls Try.prog 65 #[.int .i64 y, .int .i64 x] w fun e w' => e = .returned (.bool (mBit 7 x y)) ∧ w = w' := by
  have hP : x * y ≤ 3600 := Nat.mul_le_mul hx hy
  have hp1 : IntKind.i64.wrap ((y : Int) * (x : Int)) = ((x * y : Nat) : Int) := by
    rw [show (y : Int) * (x : Int) = ((x * y : Nat) : Int) from by simp [Int.mul_comm]]
    exact IntWalk.i64_in _ ⟨by omega, by omega⟩
  have ha := and_1 (y + x + x * y % 3) (by omega)
  have e1 : (((y : Int) + (x : Int) + ((x * y : Nat) : Int) % 3)) = ((y + x + x * y % 3 : Nat) : Int) := by omega
  rw [← e1] at ha
  clear e1
  have hb : (((y : Int) + (x : Int) + ((x * y : Nat) : Int) % 3) % 2 == 0) = mBit 7 x y := by
    unfold mBit
    generalize x * y = P at *
    rw [Bool.eq_iff_iff]; simp; omega
  generalize mBit 7 x y = b at *
  generalize x * y = P at *
  go_enter Try.func65, Try.ntmps65
  go_wp2
  go_ret
  exact ⟨rfl, rfl⟩

set_option maxHeartbeats 1000000 in
theorem spec0 (x y : Nat) (w : World) (hx : x ≤ 60) (hy : y ≤ 60) : Calls Try.prog 21 #[.int .i64 0, .int .i64 x, .int .i64 y] w fun e w' => e = .returned (.bool (mBit 0 x y)) ∧ w = w' := by
  have hb : (((x : Int) + (y : Int)) % 2 == 0) = mBit 0 x y := by rw [Bool.eq_iff_iff]; simp [mBit]; omega
  generalize mBit 0 x y = b at *
  go_enter Try.func21, Try.ntmps21
  go_wp2
  go_ret
  exact ⟨rfl, rfl⟩

set_option maxHeartbeats 1000000 in
theorem spec1 (x y : Nat) (w : World) (hx : x ≤ 60) (hy : y ≤ 60) : Calls Try.prog 21 #[.int .i64 1, .int .i64 x, .int .i64 y] w fun e w' => e = .returned (.bool (mBit 1 x y)) ∧ w = w' := by
  have hb : ((y : Int) % 2 == 0) = mBit 1 x y := by rw [Bool.eq_iff_iff]; simp [mBit]; omega
  generalize mBit 1 x y = b at *
  go_enter Try.func21, Try.ntmps21
  go_wp2
  go_ret
  exact ⟨rfl, rfl⟩

set_option maxHeartbeats 1000000 in
theorem spec2 (x y : Nat) (w : World) (hx : x ≤ 60) (hy : y ≤ 60) : Calls Try.prog 21 #[.int .i64 2, .int .i64 x, .int .i64 y] w fun e w' => e = .returned (.bool (mBit 2 x y)) ∧ w = w' := by
  have hb : ((x : Int) % 3 == 0) = mBit 2 x y := by rw [Bool.eq_iff_iff]; simp [mBit]; omega
  generalize mBit 2 x y = b at *
  go_enter Try.func21, Try.ntmps21
  go_wp2
  go_ret
  exact ⟨rfl, rfl⟩

set_option maxHeartbeats 1000000 in
theorem spec3 (x y : Nat) (w : World) (hx : x ≤ 60) (hy : y ≤ 60) : Calls Try.prog 21 #[.int .i64 3, .int .i64 x, .int .i64 y] w fun e w' => e = .returned (.bool (mBit 3 x y)) ∧ w = w' := by
  have hb : (((x : Int) + (y : Int)) % 3 == 0) = mBit 3 x y := by rw [Bool.eq_iff_iff]; simp [mBit]; omega
  generalize mBit 3 x y = b at *
  go_enter Try.func21, Try.ntmps21
  go_wp2
  go_ret
  exact ⟨rfl, rfl⟩

set_option maxHeartbeats 1000000 in
theorem spec4 (x y : Nat) (w : World) (hx : x ≤ 60) (hy : y ≤ 60) : Calls Try.prog 21 #[.int .i64 4, .int .i64 x, .int .i64 y] w fun e w' => e = .returned (.bool (mBit 4 x y)) ∧ w = w' := by
  have hb : (((y : Int) / 2 + (x : Int) / 3) % 2 == 0) = mBit 4 x y := by rw [Bool.eq_iff_iff]; simp [mBit]; omega
  generalize mBit 4 x y = b at *
  go_enter Try.func21, Try.ntmps21
  go_wp2
  go_ret
  exact ⟨rfl, rfl⟩

set_option maxHeartbeats 1000000 in
theorem spec5 (x y : Nat) (w : World) (hx : x ≤ 60) (hy : y ≤ 60) : Calls Try.prog 21 #[.int .i64 5, .int .i64 x, .int .i64 y] w fun e w' => e = .returned (.bool (mBit 5 x y)) ∧ w = w' := by
  have hP : x * y ≤ 3600 := Nat.mul_le_mul hx hy
  have hp1 : IntKind.i64.wrap ((x : Int) * (y : Int)) = ((x * y : Nat) : Int) := by
    rw [show (x : Int) * (y : Int) = ((x * y : Nat) : Int) from by simp]
    exact IntWalk.i64_in _ ⟨by omega, by omega⟩
  have hb : (((x * y : Nat) : Int) % 2 + ((x * y : Nat) : Int) % 3 == 0) = mBit 5 x y := by
    unfold mBit
    generalize x * y = P at *
    rw [Bool.eq_iff_iff]; simp; omega
  generalize mBit 5 x y = b at *
  generalize x * y = P at *
  go_enter Try.func21, Try.ntmps21
  go_wp2
  go_ret
  exact ⟨rfl, rfl⟩

set_option maxHeartbeats 1000000 in
theorem spec6 (x y : Nat) (w : World) (hx : x ≤ 60) (hy : y ≤ 60) : Calls Try.prog 21 #[.int .i64 6, .int .i64 x, .int .i64 y] w fun e w' => e = .returned (.bool (mBit 6 x y)) ∧ w = w' := by
  have hP : x * y ≤ 3600 := Nat.mul_le_mul hx hy
  have hp1 : IntKind.i64.wrap ((x : Int) * (y : Int)) = ((x * y : Nat) : Int) := by
    rw [show (x : Int) * (y : Int) = ((x * y : Nat) : Int) from by simp]
    exact IntWalk.i64_in _ ⟨by omega, by omega⟩
  have hb : ((((x * y : Nat) : Int) + ((x * y : Nat) : Int) % 3) % 2 == 0) = mBit 6 x y := by
    unfold mBit
    generalize x * y = P at *
    rw [Bool.eq_iff_iff]; simp; omega
  generalize mBit 6 x y = b at *
  generalize x * y = P at *
  go_enter Try.func21, Try.ntmps21
  go_wp2
  go_ret
  exact ⟨rfl, rfl⟩

set_option maxHeartbeats 1000000 in
theorem spec7 (x y : Nat) (w : World) (hx : x ≤ 60) (hy : y ≤ 60) : Calls Try.prog 21 #[.int .i64 7, .int .i64 x, .int .i64 y] w fun e w' => e = .returned (.bool (mBit 7 x y)) ∧ w = w' := by
  have hP : x * y ≤ 3600 := Nat.mul_le_mul hx hy
  have hp1 : IntKind.i64.wrap ((x : Int) * (y : Int)) = ((x * y : Nat) : Int) := by
    rw [show (x : Int) * (y : Int) = ((x * y : Nat) : Int) from by simp]
    exact IntWalk.i64_in _ ⟨by omega, by omega⟩
  have hb : (((x : Int) + (y : Int) + ((x * y : Nat) : Int) % 3) % 2 == 0) = mBit 7 x y := by
    unfold mBit
    generalize x * y = P at *
    rw [Bool.eq_iff_iff]; simp; omega
  generalize mBit 7 x y = b at *
  generalize x * y = P at *
  go_enter Try.func21, Try.ntmps21
  go_wp2
  go_ret
  exact ⟨rfl, rfl⟩

theorem maskBit (m x y : Nat) (w : World) (hm : m < 8) (hx : x ≤ 60) (hy : y ≤ 60) : Calls Try.prog 21 #[.int .i64 m, .int .i64 x, .int .i64 y] w fun e w' => e = .returned (.bool (mBit m x y)) ∧ w = w' := by
  match m, hm with
  | 0, _ => exact spec0 x y w hx hy
  | 1, _ => exact spec1 x y w hx hy
  | 2, _ => exact spec2 x y w hx hy
  | 3, _ => exact spec3 x y w hx hy
  | 4, _ => exact spec4 x y w hx hy
  | 5, _ => exact spec5 x y w hx hy
  | 6, _ => exact spec6 x y w hx hy
  | 7, _ => exact spec7 x y w hx hy
theorem maskFn (m x y : Nat) (w : World) (hm : m < 8) (hx : x ≤ 60) (hy : y ≤ 60) : Calls Try.prog (58 + m) #[.int .i64 y, .int .i64 x] w fun e w' => e = .returned (.bool (mBit m x y)) ∧ w = w' := by
  match m, hm with
  | 0, _ => exact mask0 x y w hx hy
  | 1, _ => exact mask1 x y w hx hy
  | 2, _ => exact mask2 x y w hx hy
  | 3, _ => exact mask3 x y w hx hy
  | 4, _ => exact mask4 x y w hx hy
  | 5, _ => exact mask5 x y w hx hy
  | 6, _ => exact mask6 x y w hx hy
  | 7, _ => exact mask7 x y w hx hy
end Go.Proofs.Ytjgckbccbambmaa
