/- FnDMSymbols: the walk of the law. -/
import Derived.Test.YtfmjkflihnfneaaDmI
namespace Go.Proofs.Ytfmjkflihnfneaa
open Go.RowKit
set_option linter.unusedVariables false
theorem shapeT (s : Nat) (hs : s ≤ 2) (w : World) : Calls Try.prog 4 #[.int .i64 s] w fun e w' => e = .returned (.bool true) ∧ w = w' := by
  have h2 : (s : Int) ≤ 2 := by omega
  go_enter Try.func4, Try.ntmps4
  go_wp2_with fail
  go_ret
  exact ⟨rfl, rfl⟩
theorem shapeF (s : Int) (hs : s < 0 ∨ 2 < s) (w : World) : Calls Try.prog 4 #[.int .i64 s] w fun e w' => e = .returned (.bool false) ∧ w = w' := by
  rcases hs with h | h
  all_goals
    try (have h0 : ¬ (0 : Int) ≤ s := by omega)
    try (have h1 : (0 : Int) ≤ s := by omega)
    try (have h2 : ¬ s ≤ (2 : Int) := by omega)
    go_enter Try.func4, Try.ntmps4
    go_wp2_with fail
    go_ret
    exact ⟨rfl, rfl⟩
def nineOf (k : Nat) : List Value := [.int .i64 (inn k 1 : Nat), .int .i64 (inn k 2 : Nat), .int .i64 (inn k 3 : Nat), .int .i64 (inn k 4 : Nat), .int .i64 (blk k : Nat), .int .i64 (hreg (inn k 5) * inn k 3 + 2 * hreg (inn k 5) : Nat), .int .i64 (vreg (inn k 5) * inn k 4 + 2 * vreg (inn k 5) : Nat),
  .int .i64 (hreg (inn k 5) * inn k 3 : Nat), .int .i64 (vreg (inn k 5) * inn k 4 : Nat)]
/-- A symbol whose numbers are letters. -/
def SymIs (words shape : Nat) (w : World) (e : Ending) (w' : World) : Prop :=
  ∃ k a b c d f g : Nat, k < 30 ∧ rowFits words shape k = true ∧ (∀ j, j < k → rowFits words shape j = false) ∧ a = szf k 0 ∧ b = szf k 1 ∧ c = szf k 2 ∧ d = szf k 3 ∧ f = szf k 5 ∧ g = szf k 6 ∧ Below w.heap.size w w' ∧
    e = .returned (.tuple #[.agg #[.int .i64 (szf k 4 : Nat), .int .i64 f, .int .i64 d, .int .i64 c, .int .i64 g, .int .i64 b, .int .i64 a, .int .i64 (b / (d + 2) * d : Nat), .int .i64 (a / (c + 2) * c : Nat)], .bool true])
theorem symYes (words shape : Nat) (hw : words ≤ 9223372036854775807) (hs : shape ≤ 2) (hm : words ≤ most shape 30) (w : World) : Calls Try.prog 5 #[.int .i64 words, .int .i64 shape] w (SymIs words shape w) := by
  refine (symbolFor words shape hw hs w).mono ?_
  rintro e w' ⟨hb, ⟨k, hk, hf, hfirst, rfl⟩ | ⟨hno, _⟩⟩
  · refine ⟨k, _, _, _, _, _, _, hk, hf, hfirst, rfl, rfl, rfl, rfl, rfl, rfl, hb, ?_⟩
    obtain ⟨h1, h2, h3, h4, h5, h6, h7, h8, h9, _⟩ := same k hk
    unfold symAgg
    rw [h6, h7, h8, h9, h1, h2, h3, h4, h5]
  · obtain ⟨k, hk, hf⟩ := some_of_most words shape hs hm
    rw [hno k hk] at hf; cases hf
theorem symNo (words shape : Nat) (hw : words ≤ 9223372036854775807) (hs : shape ≤ 2) (hm : most shape 30 < words) (w : World) :
    Calls Try.prog 5 #[.int .i64 words, .int .i64 shape] w fun e w' => e = .returned (.tuple #[.agg #[.int .i64 0, .int .i64 0, .int .i64 0, .int .i64 0, .int .i64 0, .int .i64 0, .int .i64 0, .int .i64 0, .int .i64 0], .bool false]) ∧ Below w.heap.size w w' := by
  refine (symbolFor words shape hw hs w).mono ?_
  rintro e w' ⟨hb, ⟨k, hk, hf, _⟩ | ⟨hno, rfl⟩⟩
  · rw [none_of_most words shape hs hm k hk] at hf; cases hf
  · exact ⟨rfl, hb⟩
set_option maxRecDepth 20000 in
set_option maxHeartbeats 4000000 in
theorem lawNo (words shape : Nat) (h1 : 1 ≤ words) (hw : words ≤ 9223372036854775807) (hs : shape ≤ 2) (hm : most shape 30 < words) (w : World) :
    Calls Try.prog 3 #[.int .i64 words, .int .i64 shape] w fun e w' => e = .returned (.bool true) ∧ Below w.heap.size w w' := by
  have sh := fun W => shapeT shape hs W
  have no := fun W => symNo words shape hw hs hm W
  have yes := fun W => symYes 1 shape (by omega) hs (by obtain ⟨_, _, _, _, h⟩ := most_is shape hs; omega) W
  have mo := fun W => dmMost shape hs W
  have hm' : ((most shape 30 : Nat) : Int) < (words : Int) := by omega
  have hmb := most_le shape 30 (by omega)
  generalize most shape 30 = M at *
  have hw1 : ¬ (words : Int) < 1 := by omega
  clear hm
  have B0 := Below.refl w.heap.size w
  go_enter Try.func3, Try.ntmps3
  go_wp2_with fail
  refine (sh _).mono ?_
  rintro e w1 ⟨rfl, rfl⟩
  clear sh
  go_wp2_with fail
  refine (no _).mono ?_
  rintro e w1 ⟨rfl, hb1⟩
  have HB1 := hid hb1
  clear no hb1 B0
  go_wp2_with fail
  refine (mo _).mono ?_
  rintro e w2 ⟨rfl, hb2⟩
  have HB2 := hid ((HB1.out.alloc HB1.out.size (.cells #[.int .i64 0, .int .i64 0, .int .i64 0, .int .i64 0, .int .i64 0, .int .i64 0, .int .i64 0, .int .i64 0, .int .i64 0] 24)).trans (hb2.mono (by have := HB1.out.size; simp; omega)))
  clear mo hb2
  go_wp2_with fail
  refine (yes _).mono ?_
  rintro e w3 ⟨k, a, b, c, d, f, g, hk, hf, _, ha, hbb, hc, hd, hff, hg, hb3, rfl⟩
  have HB3 := hid (HB2.out.trans (hb3.mono HB2.out.size))
  have hx := (rowFits_iff 1 shape k hs hk).symm.trans hf
  have hx1 : 1 ≤ szf k 4 := by
    have := (Bool.and_eq_true _ _ |>.mp hx).2
    simpa using this
  have hx2 := szf_le k 4 hk (by omega)
  clear yes hb3 hf ha hbb hc hd hff hg hx
  generalize b / (d + 2) * d = P at *
  generalize a / (c + 2) * c = Q at *
  generalize szf k 4 = x at *
  have hx1' : (1 : Int) ≤ (x : Int) := by omega
  have HB4 := hid (HB3.out.alloc HB3.out.size (.cells #[.int .i64 x, .int .i64 f, .int .i64 d, .int .i64 c, .int .i64 g, .int .i64 b, .int .i64 a, .int .i64 P, .int .i64 Q] 24))
  go_wp2_with fail
  go_ret
  exact ⟨rfl, HB4.out⟩
end Go.Proofs.Ytfmjkflihnfneaa
