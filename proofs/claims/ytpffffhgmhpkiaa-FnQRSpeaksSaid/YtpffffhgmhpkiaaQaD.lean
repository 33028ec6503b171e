/- QR codes: spec.QRRoom, QRTotal, qrGiven, qrPattern. -/
import Derived.Test.YtpffffhgmhpkiaaQaC
namespace Go.Proofs.Ytpffffhgmhpkiaa
open Go.RowKit
set_option linter.unusedVariables false
set_option linter.unusedSimpArgs false

def RoomOut (v : Nat) (w : World) (e : Ending) (w' : World) : Prop := ∃ z : Int, e = .returned (.int .i64 z) ∧ z = roomI v ∧ Below w.heap.size w w'
set_option maxRecDepth 20000 in
set_option maxHeartbeats 4000000 in
theorem roomQ (v : Nat) (h1 : 1 ≤ v) (h2 : v ≤ 40) (w : World) : Calls Try.prog 64 #[.int .i64 v] w (RoomOut v w) := by
  have cq := fun W => centersQ v h1 h2 W
  have dq := fun W => dimQ v h2 W
  obtain ⟨_, _, hm7⟩ := room_ok v h1 h2
  obtain ⟨n, hn⟩ : ∃ n, n = 17 + 4 * v := ⟨_, rfl⟩
  rw [← hn] at dq
  have hn177 : n ≤ 177 := by omega
  obtain ⟨N2, hN2⟩ : ∃ N2, N2 = n * n := ⟨_, rfl⟩
  have hN2l : N2 ≤ 177 * 177 := by rw [hN2]; exact Nat.mul_le_mul hn177 hn177
  have n2 : (n : Int) * (n : Int) = (N2 : Int) := by rw [hN2, Int.natCast_mul]
  have HN := hid hn
  have HN2 := hid hN2
  clear hn hN2
  by_cases h7 : 7 ≤ v
  all_goals (
    have h7' := h7
    go_enter Try.func64, Try.ntmps64
    go_wp2_with fail
    refine (dq _).mono ?_
    rintro e w1 ⟨rfl, rfl⟩
    go_wp2_with fail
    refine (cq _).mono ?_
    rintro e w1 ⟨A, m, c, rfl, hm, hR, hb⟩
    rw [← hm] at hm7
    have HM := hid hm
    have HB := hid hb
    obtain ⟨M2, hM2⟩ : ∃ M2, M2 = m * m := ⟨_, rfl⟩
    have hM2l : M2 ≤ 7 * 7 := by rw [hM2]; exact Nat.mul_le_mul hm7 hm7
    have m2 : (m : Int) * (m : Int) = (M2 : Int) := by rw [hM2, Int.natCast_mul]
    have HM2 := hid hM2
    clear hR hb hm hM2
    have h7i : (7 : Int) ≤ (v : Int) ∨ ¬ (7 : Int) ≤ (v : Int) := by omega
    by_cases hm0 : 0 < m
    · have hm0' : (0 : Int) < (m : Int) := by omega
      go_wp2_with fail
      go_ret
      refine ⟨_, rfl, ?_, HB.out⟩
      have e1 := HN.out; have e2 := HM.out
      unfold roomI
      rw [show ((17 : Int) + 4 * (v : Int)) = (n : Int) by omega, ← HM.out]
      dsimp only
      rw [n2, m2]
      simp only [h7', if_true, if_false]
      split <;> omega
    · have hm0' : ¬ (0 : Int) < (m : Int) := by omega
      go_wp2_with fail
      go_ret
      refine ⟨_, rfl, ?_, HB.out⟩
      have e1 := HN.out; have e2 := HM.out
      unfold roomI
      rw [show ((17 : Int) + 4 * (v : Int)) = (n : Int) by omega, ← HM.out]
      dsimp only
      rw [n2, m2]
      simp only [h7', if_true, if_false]
      split <;> omega)
set_option maxRecDepth 20000 in
theorem totalQ (v : Nat) (h1 : 1 ≤ v) (h2 : v ≤ 40) (w : World) : Calls Try.prog 37 #[.int .i64 v] w fun e w' => e = .returned (.int .i64 (totN v : Nat)) ∧ Below w.heap.size w w' := by
  have rq := fun W => roomQ v h1 h2 W
  obtain ⟨r0, r1, _⟩ := room_ok v h1 h2
  unfold RoomOut at rq
  unfold totN
  generalize roomI v = R at *
  obtain ⟨x, rfl⟩ : ∃ x : Nat, R = x := ⟨R.toNat, by omega⟩
  go_enter Try.func37, Try.ntmps37
  go_wp2_with fail
  refine (rq _).mono ?_
  rintro e w1 ⟨z, rfl, rfl, hb⟩
  have HB := hid hb
  clear hb
  go_wp2_with fail
  go_ret
  exact ⟨congrArg (fun x => Ending.returned (.int .i64 x)) (by simp), HB.out⟩
theorem tot_le (v : Nat) (h1 : 1 ≤ v) (h2 : v ≤ 40) : totN v ≤ 3706 := by
  obtain ⟨r0, r1, _⟩ := room_ok v h1 h2
  unfold totN; omega
/-- A module belongs to a pattern. -/
def cornB (n r c : Nat) : Bool := decide (r ≤ 8 ∧ (c ≤ 8 ∨ n ≤ c + 8)) || decide (n ≤ r + 8 ∧ c ≤ 8) || decide (r = 6) || decide (c = 6)
def versB (v n r c : Nat) : Bool := decide (7 ≤ v) && (decide (r ≤ 5 ∧ n ≤ c + 11) || decide (c ≤ 5 ∧ n ≤ r + 11))
def gvB (v r c : Nat) : Bool := cornB (17 + 4 * v) r c || versB v (17 + 4 * v) r c || alB v r c
def gvP (v n r c : Nat) : Prop := (r ≤ 8 ∧ (c ≤ 8 ∨ n ≤ c + 8)) ∨ (n ≤ r + 8 ∧ c ≤ 8) ∨ r = 6 ∨ c = 6 ∨ (7 ≤ v ∧ ((r ≤ 5 ∧ n ≤ c + 11) ∨ (c ≤ 5 ∧ n ≤ r + 11)))
theorem gv_iff (v n r c : Nat) : (cornB n r c || versB v n r c) = true ↔ gvP v n r c := by
  unfold cornB versB gvP
  simp only [Bool.or_eq_true, Bool.and_eq_true, decide_eq_true_eq]
  omega
theorem gv_t {v n r c : Nat} (ab : Bool) (h : gvP v n r c) : true = (cornB n r c || versB v n r c || ab) := by rw [(gv_iff v n r c).2 h]; rfl
theorem gv_f {v n r c : Nat} (ab : Bool) (h : ¬ gvP v n r c) : ab = (cornB n r c || versB v n r c || ab) := by
  cases hb : (cornB n r c || versB v n r c) with
  | false => rfl
  | true => exact absurd ((gv_iff v n r c).1 hb) h
def GvOut (v r c : Nat) (w : World) (e : Ending) (w' : World) : Prop := e = .returned (.bool (gvB v r c)) ∧ w = w'
set_option maxRecDepth 20000 in
set_option maxHeartbeats 8000000 in
theorem givenQ (v r c m cp : Nat) (A : Option Addr) (w : World) (h1 : 1 ≤ v) (h2 : v ≤ 40) (hm : m = cmany v) (hR : Rd w A m (cenV v)) (hr : r < 17 + 4 * v) (hc : c < 17 + 4 * v) :
    Calls Try.prog 61 #[.int .i64 v, .slice A m cp, .int .i64 r, .int .i64 c] w (GvOut v r c w) := by
  have al := alignQ v r c m cp A w h1 h2 hm hR (by omega) (by omega)
  have dq := fun W => dimQ v h2 W
  obtain ⟨n, hn⟩ : ∃ n, n = 17 + 4 * v := ⟨_, rfl⟩
  rw [← hn] at dq hr hc
  have hn177 : n ≤ 177 := by omega
  have hn21 : 21 ≤ n := by omega
  unfold GvOut gvB
  rw [← hn]
  unfold AlOut at al
  generalize alB v r c = ab at *
  clear hn hm hR
  go_enter Try.func61, Try.ntmps61
  go_wp2_with fail
  refine (dq _).mono ?_
  rintro e w1 ⟨rfl, rfl⟩
  go_wp2_with fail
  all_goals (first
    | (go_ret; exact ⟨congrArg (fun b => Ending.returned (.bool b)) (gv_t ab (by unfold gvP; (try simp only [beq_iff_eq, beq_eq_false_iff_ne, ne_eq] at *); omega)), rfl⟩)
    | (have hng : ¬ gvP v n r c := by unfold gvP; (try simp only [beq_iff_eq, beq_eq_false_iff_ne, ne_eq] at *); omega
       have HG := hid (gv_f ab hng)
       refine al.mono ?_
       rintro e w5 ⟨z, rfl, z0, z1, zi, rfl⟩
       clear hng al
       by_cases hz : 0 ≤ z
       · have HZ := hid (zi.1 hz)
         clear zi
         go_wp2_with fail
         go_ret
         exact ⟨congrArg (fun b => Ending.returned (.bool b)) (HZ.out ▸ HG.out), rfl⟩
       · have HZ := hid (show false = ab by cases ab; rfl; exact absurd (zi.2 rfl) hz)
         clear zi
         go_wp2_with fail
         go_ret
         exact ⟨congrArg (fun b => Ending.returned (.bool b)) (by rw [decide_eq_false (show ¬ 0 ≤ z by omega)]; exact HZ.out.trans HG.out), rfl⟩))
end Go.Proofs.Ytpffffhgmhpkiaa
