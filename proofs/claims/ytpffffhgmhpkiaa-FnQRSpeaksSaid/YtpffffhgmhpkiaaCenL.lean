/- QR codes: middles of alignment patterns and how much room there is. Plain. -/
import Derived.WalkKit
namespace Go.Proofs.Ytpffffhgmhpkiaa
set_option linter.unusedVariables false
def cmany (v : Nat) : Nat := if v = 1 then 0 else v / 7 + 2
def cstep (v : Nat) : Nat := if v = 32 then 26 else (v * 4 + cmany v * 2 + 1) / (cmany v * 2 - 2) * 2
def cen (v i : Nat) : Nat := if i = 0 then 6 else 17 + 4 * v - 7 - cstep v * (cmany v - 1 - i)
def cenL (v : Nat) : List Nat := (List.range (cmany v)).map (cen v)
def cenOk (v : Nat) : Bool := (List.range (cmany v)).all fun i => decide (cen v i ≤ 17 + 4 * v - 7) && (decide (i = 0) || decide (cstep v * (cmany v - 1 - i) + 6 ≤ 17 + 4 * v - 7)) && decide (cstep v ≤ 28) && (decide (v < 7) || ((decide (i = 0) || decide (22 ≤ cen v i)) && (decide (i + 1 = cmany v) || decide (cen v i + 23 ≤ 17 + 4 * v))))
theorem cen_all : ((List.range 41).all fun v => decide (v = 0) || cenOk v) = true := by decide +kernel
theorem cen_ok (v i : Nat) (h1 : 1 ≤ v) (h2 : v ≤ 40) (hi : i < cmany v) :
    cen v i ≤ 17 + 4 * v - 7 ∧ (i = 0 ∨ cstep v * (cmany v - 1 - i) + 6 ≤ 17 + 4 * v - 7) ∧ cstep v ≤ 28 ∧ (7 ≤ v → (i = 0 ∨ 22 ≤ cen v i) ∧ (i + 1 = cmany v ∨ cen v i + 23 ≤ 17 + 4 * v)) := by
  have h := List.all_eq_true.1 cen_all v (List.mem_range.2 (by omega))
  simp only [Bool.or_eq_true, decide_eq_true_eq, show ¬ v = 0 by omega, false_or] at h
  have h := List.all_eq_true.1 h i (List.mem_range.2 hi)
  simp only [Bool.or_eq_true, Bool.and_eq_true, decide_eq_true_eq] at h
  obtain ⟨⟨⟨a, b⟩, c⟩, d⟩ := h
  refine ⟨a, b, c, fun h7 => ?_⟩
  rcases d with d | d
  · omega
  · exact d
/-- How many modules carry data, and how many words there are. -/
def roomI (v : Nat) : Int :=
  let n : Int := 17 + 4 * (v : Int)
  let m : Int := cmany v
  let a : Int := n * n - 192 - 2 * (n - 16) - 31
  let b : Int := if 7 ≤ v then a - 36 else a
  if 0 < m then b - (25 * (m * m - 3) - 10 * (m - 2)) else b
def totN (v : Nat) : Nat := (roomI v).toNat / 8
theorem room_all : ((List.range 41).all fun v => decide (v = 0) || (decide (0 ≤ roomI v) && decide (roomI v ≤ 29648) && decide (cmany v ≤ 7))) = true := by decide +kernel
theorem room_ok (v : Nat) (h1 : 1 ≤ v) (h2 : v ≤ 40) : 0 ≤ roomI v ∧ roomI v ≤ 29648 ∧ cmany v ≤ 7 := by
  have h := List.all_eq_true.1 room_all v (List.mem_range.2 (by omega))
  simp only [Bool.or_eq_true, Bool.and_eq_true, decide_eq_true_eq, show ¬ v = 0 by omega, false_or] at h
  exact ⟨h.1.1, h.1.2, h.2⟩
/-- Where the version stands there is no alignment pattern. -/
theorem align_none (v r c i k : Nat) (h1 : 7 ≤ v) (h2 : v ≤ 40) (hi : i < cmany v) (hk : k < cmany v) (hr : r ≤ 5) (hc1 : 17 + 4 * v - 11 ≤ c) (hc2 : c ≤ 17 + 4 * v - 9)
    (hskip : ¬ (i = 0 ∧ (k = 0 ∨ k + 1 = cmany v))) (a1 : (r : Int) - cen v i ≤ 2) (a2 : (cen v i : Int) - r ≤ 2) (b1 : (c : Int) - cen v k ≤ 2) (b2 : (cen v k : Int) - c ≤ 2) : False := by
  obtain ⟨_, _, _, e⟩ := cen_ok v i (by omega) h2 hi
  obtain ⟨e1, _⟩ := e h1
  obtain ⟨_, _, _, f⟩ := cen_ok v k (by omega) h2 hk
  obtain ⟨_, f2⟩ := f h1
  rcases e1 with rfl | e1
  · rcases f2 with f2 | f2
    · exact hskip ⟨rfl, .inr f2⟩
    · omega
  · omega
end Go.Proofs.Ytpffffhgmhpkiaa
