/- The walks of FnAZTurn, the reference's side. -/
import Derived.Test.YtifegijnhlbedaaTurnW
namespace Go.Proofs.Ytifegijnhlbedaa
open Go.RowKit
set_option linter.unusedVariables false

def mark : Nat → Nat → Bool
  | 0, _ => true
  | 1, m => decide (0 < m)
  | 2, m => decide (m = 0)
  | _, _ => false

theorem azMark (c m : Nat) (w : World) (hc : c < 4) (hm : m < 3) :
    Calls Try.prog 39 #[.int .i64 c, .int .i64 m] w fun e w' => e = .returned (.bool (mark c m)) ∧ w = w' := by
  rcases (by omega : c = 0 ∨ c = 1 ∨ c = 2 ∨ c = 3) with rfl | rfl | rfl | rfl <;> rcases (by omega : m = 0 ∨ m = 1 ∨ m = 2) with rfl | rfl | rfl
  all_goals
    go_enter Try.func39, Try.ntmps39
    go_wp2
    go_ret
    exact ⟨rfl, rfl⟩

def bitAt (L : Nat) (S : List Nat) (u c : Nat) : Nat → Bool
  | 0 => ((S.getD ((u + c + 3) % 4) 0 % 2 : Nat) : Int) == 1
  | 1 => ((S.getD ((u + c) % 4) 0 / 2 ^ (L - 1) % 2 : Nat) : Int) == 1
  | _ => ((S.getD ((u + c) % 4) 0 / 2 ^ (L - 2) % 2 : Nat) : Int) == 1
def wrongIn (L : Nat) (S : List Nat) (u c : Nat) : Nat → Nat
  | 0 => 0
  | k + 1 => wrongIn L S u c k + (bitAt L S u c k != mark c k).toNat
def wrongTo (L : Nat) (S : List Nat) (u : Nat) : Nat → Nat
  | 0 => 0
  | c + 1 => wrongTo L S u c + wrongIn L S u c 3
theorem wrongIn_le (L : Nat) (S : List Nat) (u c k : Nat) : wrongIn L S u c k ≤ k := by
  induction k with
  | zero => simp [wrongIn]
  | succ k ih => simp only [wrongIn]; have := (bitAt L S u c k != mark c k).toNat_le; omega
theorem wrongTo_le (L : Nat) (S : List Nat) (u c : Nat) : wrongTo L S u c ≤ 3 * c := by
  induction c with
  | zero => simp [wrongTo]
  | succ k ih => simp only [wrongTo]; have := wrongIn_le L S u k 3; omega

theorem and1 (q : Nat) (h : q < 1000000) : bits .and .i64 (q : Int) 1 = ((q % 2 : Nat) : Int) := by
  have := i64_and q 1 (by omega) (by omega)
  rw [nat_mask1] at this
  exact this

set_option maxHeartbeats 1000000 in
theorem azWrongMarks (A : Option Addr) (c L : Nat) (S : List Nat) (u : Nat) (w : World) (hL : L = 10 ∨ L = 14) (hS : Sides L S) (hu : u < 4) (hR : Rd w A 4 (S.map sideVal)) :
    Calls Try.prog 31 #[.slice A 4 c, .int .i64 L, .int .i64 u] w fun e w' => e = .returned (.int .i64 (wrongTo L S u 4 : Nat)) ∧ Below w.heap.size w w' := by
  go_enter Try.func31, Try.ntmps31
  go_wp2
  go_loopw [7, 8, 9, 10, 11, 12] (fun out i _ _ _ _ wr => ∃ k : Nat, k ≤ 4 ∧ i = .int .i64 k ∧ out = .int .i64 (wrongTo L S u k : Nat) ∧ Below w.heap.size w wr) (fun _ i _ _ _ _ _ => 4 - (intOf i).toNat)
  case atStart => exact ⟨0, by omega, rfl, rfl, Below.refl _ _⟩
  case round =>
    obtain ⟨k, hk, rfl, rfl, hB⟩ := hrel
    by_cases hlt : k < 4
    · have hlt' : (k : Int) < 4 := by omega
      have hR' := hR.below hB
      obtain ⟨b, o, rfl, hc1⟩ := rd_side hR' ((u + k + 3) % 4) (by omega)
      obtain ⟨b', o', he, hc2⟩ := rd_side hR' ((u + k) % 4) (by omega)
      cases he
      have hs1 := hS.2 ((u + k + 3) % 4) (by omega)
      have hs2 := hS.2 ((u + k) % 4) (by omega)
      have hle := wrongTo_le L S u k
      have HW := hid (show wrongTo L S u (k + 1) = wrongTo L S u k + wrongIn L S u k 3 from rfl)
      have hb0 : (((S.getD ((u + k + 3) % 4) 0 % 2 : Nat) : Int) == 1) = bitAt L S u k 0 := rfl
      have hb1 : (((S.getD ((u + k) % 4) 0 / 2 ^ (L - 1) % 2 : Nat) : Int) == 1) = bitAt L S u k 1 := rfl
      have hb2 : (((S.getD ((u + k) % 4) 0 / 2 ^ (L - 2) % 2 : Nat) : Int) == 1) = bitAt L S u k 2 := rfl
      generalize S.getD ((u + k + 3) % 4) 0 = s1 at *
      generalize S.getD ((u + k) % 4) 0 = s2 at *
      have hs1' : s1 < 16384 := by rcases hL with rfl | rfl <;> simp at hs1 <;> omega
      have hs2' : s2 < 16384 := by rcases hL with rfl | rfl <;> simp at hs2 <;> omega
      obtain ⟨q1, hq1, hq1l, e1⟩ : ∃ q : Nat, (s2 : Int) / 2 ^ (L - 1) = (q : Int) ∧ q < 20000 ∧ s2 / 2 ^ (L - 1) = q := ⟨s2 / 2 ^ (L - 1), by simp, Nat.lt_of_le_of_lt (Nat.div_le_self _ _) (by omega), rfl⟩
      obtain ⟨q2, hq2, hq2l, e2⟩ : ∃ q : Nat, (s2 : Int) / 2 ^ (L - 2) = (q : Int) ∧ q < 20000 ∧ s2 / 2 ^ (L - 2) = q := ⟨s2 / 2 ^ (L - 2), by simp, Nat.lt_of_le_of_lt (Nat.div_le_self _ _) (by omega), rfl⟩
      rw [e1] at hb1
      rw [e2] at hb2
      have ha0 := and1 s1 (by omega)
      have ha1 := and1 q1 (by omega)
      have ha2 := and1 q2 (by omega)
      clear hs1 hs2 e1 e2
      have hbs := fun j => hid (show wrongIn L S u k (j + 1) = wrongIn L S u k j + (bitAt L S u k j != mark k j).toNat from rfl)
      go_wp2
      have hb0' : ((s1 : Int) % 2 == 1) = bitAt L S u k 0 := by rw [← hb0]; simp
      have hb1' : ((q1 : Int) % 2 == 1) = bitAt L S u k 1 := by rw [← hb1]; simp
      have hb2' : ((q2 : Int) % 2 == 1) = bitAt L S u k 2 := by rw [← hb2]; simp
      have hbit := fun j (hj : j < 3) => hid (show [Value.bool (bitAt L S u k 0), .bool (bitAt L S u k 1), .bool (bitAt L S u k 2)][j]? = some (.bool (bitAt L S u k j)) by
        rcases (by omega : j = 0 ∨ j = 1 ∨ j = 2) with rfl | rfl | rfl <;> rfl)
      generalize bitAt L S u k 0 = b0 at *
      generalize bitAt L S u k 1 = b1 at *
      generalize bitAt L S u k 2 = b2 at *
      clear hb0 hb1 hb2
      go_quiet (fail)
      have hB1 := below_drewN hB nq
      generalize wr.drewN nq = w1 at hB1 ⊢
      clear hc1 hc2 hR' hB
      go_wp2
      have hA : Arr (w1.alloc (.cells #[.bool b0, .bool b1, .bool b2] 67)) w1.heap.size 67 [.bool b0, .bool b1, .bool b2] := Arr.of_new w1 67 _
      have hB2 : Below w.heap.size w (w1.alloc (.cells #[.bool b0, .bool b1, .bool b2] 67)) := hB1.alloc hB1.size _
      generalize hg : w1.heap.size = g at hA ⊢
      generalize w1.alloc (.cells #[.bool b0, .bool b1, .bool b2] 67) = w2 at hA hB2 ⊢
      clear hg hB1
      go_loopw [7, 12] (fun out j wr => ∃ i : Nat, i ≤ 3 ∧ j = .int .i64 i ∧ out = .int .i64 (wrongTo L S u k + wrongIn L S u k i : Nat) ∧ Arr wr g 67 [.bool b0, .bool b1, .bool b2] ∧ Below w.heap.size w wr) (fun _ j _ => 3 - (intOf j).toNat)
      case atStart => exact ⟨0, by omega, rfl, rfl, hA, hB2⟩
      case round =>
        obtain ⟨i, hi, rfl, rfl, hA, hB2⟩ := hrel
        by_cases hli : i < 3
        · have hli' : (i : Int) < 3 := by omega
          have hc := hA.cell? i
          rw [(hbit i hli).out] at hc
          have HI := hbs i
          have hwi := wrongIn_le L S u k i
          generalize hx : bitAt L S u k i = x at *
          generalize hm : mark k i = m at *
          have hmk := fun W => azMark k i W hlt hli
          rw [hm] at hmk
          clear hx hm hbs hbit
          have hwt := wrongTo_le L S u k
          cases x <;> cases m
          all_goals
            go_wp2
            go_quiet ((go_at_call 39; exact Calls.quiet_of_same ((hmk _).mono fun _ _ h => ⟨h.1, h.2.symm⟩)))
            go_wp2
            go_roundw
          all_goals first
            | (simp [intOf]; omega)
            | exact ⟨i + 1, by omega, by go_num, by rw [HI.out]; go_num, hA.drewN _, below_drewN hB2 _⟩
        · obtain rfl : i = 3 := by omega
          go_wp2
          go_roundw
          case rel => exact ⟨k + 1, by omega, by go_num, by rw [HW.out], hB2⟩
          case measure => simp [intOf]; omega
    · obtain rfl : k = 4 := by omega
      go_wp2
      go_ret
      exact ⟨rfl, hB⟩
end Go.Proofs.Ytifegijnhlbedaa
