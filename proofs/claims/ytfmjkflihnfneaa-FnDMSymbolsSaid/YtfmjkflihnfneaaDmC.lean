/- encoder.symbols: the walk, call by call. Printed by gen_syms.py. -/
import Derived.Test.YtfmjkflihnfneaaDmB
namespace Go.Proofs.Ytfmjkflihnfneaa
open Go.RowKit
set_option linter.unusedVariables false
set_option linter.unusedSimpArgs false
theorem wp_of_run2 {P : Program} {o : Oper} {a : Act} {w : World} {K : Act → World → Prop} {Q : Exit → Act → World → Prop} (v : Value) (w' : World) (e : (execOp a.eval o).run P w = .ok (.value v) w') (h : K (a.put o.dst v) w') : Oper.wp P o a w K Q := by
  unfold Oper.wp; rw [e]; exact h
def ptrs (B : Nat) : List Value := (List.range 30).map fun k => Value.pointer (some ⟨B + k, 0, none⟩)
def SymsOut (w : World) (e : Ending) (w' : World) : Prop :=
  ∃ g, e = .returned (.slice (some ⟨g, 0, none⟩) 30 30) ∧ Arr w' g 35 (ptrs w.heap.size) ∧ (∀ k, k < 30 → Arr w' (w.heap.size + k) 49 (infCells k)) ∧ Below w.heap.size w w'
theorem tab_all {w w1 : World} {L : List (List Value)} (h : Tab w w1 L) (e : L = (List.range 30).map infCells) : w1.heap.size = w.heap.size + 30 ∧ Below w.heap.size w w1 ∧ ∀ k, k < 30 → Arr w1 (w.heap.size + k) 49 (infCells k) := by
  subst e
  obtain ⟨h1, h2, h3⟩ := h
  refine ⟨by simpa using h1, h2, fun k hk => ?_⟩
  have := h3 k (by simpa using hk)
  simpa using this
set_option maxRecDepth 100000 in
set_option maxHeartbeats 40000000 in
theorem syms (w : World) : Calls Try.prog 23 #[] w (SymsOut w) := by
  have hT := Tab.nil w
  have HI := hid (fun rect dc ec mw mh dr W L h => newInfo rect dc ec mw mh dr w W L h)
  have HR := hid (fun rect dc ec mw mh dr rb re W L h => newRS rect dc ec mw mh dr rb re w W L h)
  have H1 := hid (fun W L h => new144 w W L h)
  obtain ⟨B, hB⟩ : ∃ B, B = w.heap.size := ⟨_, rfl⟩
  have HB := hid hB
  clear hB
  go_enter Try.func23, Try.ntmps23
  go_wp2_with fail
  refine (HI.out _ _ _ _ _ _ _ _ hT).mono ?_
  clear hT
  rintro e w1 ⟨rfl, hT⟩
  rw [← HB.out]
  simp only [List.length_append, List.length_nil, List.length_singleton, Nat.zero_add, Nat.add_zero, Nat.reduceAdd]
  go_wp2_with fail
  refine (HI.out _ _ _ _ _ _ _ _ hT).mono ?_
  clear hT
  rintro e w2 ⟨rfl, hT⟩
  rw [← HB.out]
  simp only [List.length_append, List.length_nil, List.length_singleton, Nat.zero_add, Nat.add_zero, Nat.reduceAdd]
  go_wp2_with fail
  refine (HI.out _ _ _ _ _ _ _ _ hT).mono ?_
  clear hT
  rintro e w3 ⟨rfl, hT⟩
  rw [← HB.out]
  simp only [List.length_append, List.length_nil, List.length_singleton, Nat.zero_add, Nat.add_zero, Nat.reduceAdd]
  go_wp2_with fail
  refine (HI.out _ _ _ _ _ _ _ _ hT).mono ?_
  clear hT
  rintro e w4 ⟨rfl, hT⟩
  rw [← HB.out]
  simp only [List.length_append, List.length_nil, List.length_singleton, Nat.zero_add, Nat.add_zero, Nat.reduceAdd]
  go_wp2_with fail
  refine (HI.out _ _ _ _ _ _ _ _ hT).mono ?_
  clear hT
  rintro e w5 ⟨rfl, hT⟩
  rw [← HB.out]
  simp only [List.length_append, List.length_nil, List.length_singleton, Nat.zero_add, Nat.add_zero, Nat.reduceAdd]
  go_wp2_with fail
  refine (HI.out _ _ _ _ _ _ _ _ hT).mono ?_
  clear hT
  rintro e w6 ⟨rfl, hT⟩
  rw [← HB.out]
  simp only [List.length_append, List.length_nil, List.length_singleton, Nat.zero_add, Nat.add_zero, Nat.reduceAdd]
  go_wp2_with fail
  refine (HI.out _ _ _ _ _ _ _ _ hT).mono ?_
  clear hT
  rintro e w7 ⟨rfl, hT⟩
  rw [← HB.out]
  simp only [List.length_append, List.length_nil, List.length_singleton, Nat.zero_add, Nat.add_zero, Nat.reduceAdd]
  go_wp2_with fail
  refine (HI.out _ _ _ _ _ _ _ _ hT).mono ?_
  clear hT
  rintro e w8 ⟨rfl, hT⟩
  rw [← HB.out]
  simp only [List.length_append, List.length_nil, List.length_singleton, Nat.zero_add, Nat.add_zero, Nat.reduceAdd]
  go_wp2_with fail
  refine (HI.out _ _ _ _ _ _ _ _ hT).mono ?_
  clear hT
  rintro e w9 ⟨rfl, hT⟩
  rw [← HB.out]
  simp only [List.length_append, List.length_nil, List.length_singleton, Nat.zero_add, Nat.add_zero, Nat.reduceAdd]
  go_wp2_with fail
  refine (HI.out _ _ _ _ _ _ _ _ hT).mono ?_
  clear hT
  rintro e w10 ⟨rfl, hT⟩
  rw [← HB.out]
  simp only [List.length_append, List.length_nil, List.length_singleton, Nat.zero_add, Nat.add_zero, Nat.reduceAdd]
  go_wp2_with fail
  refine (HI.out _ _ _ _ _ _ _ _ hT).mono ?_
  clear hT
  rintro e w11 ⟨rfl, hT⟩
  rw [← HB.out]
  simp only [List.length_append, List.length_nil, List.length_singleton, Nat.zero_add, Nat.add_zero, Nat.reduceAdd]
  go_wp2_with fail
  refine (HI.out _ _ _ _ _ _ _ _ hT).mono ?_
  clear hT
  rintro e w12 ⟨rfl, hT⟩
  rw [← HB.out]
  simp only [List.length_append, List.length_nil, List.length_singleton, Nat.zero_add, Nat.add_zero, Nat.reduceAdd]
  go_wp2_with fail
  refine (HI.out _ _ _ _ _ _ _ _ hT).mono ?_
  clear hT
  rintro e w13 ⟨rfl, hT⟩
  rw [← HB.out]
  simp only [List.length_append, List.length_nil, List.length_singleton, Nat.zero_add, Nat.add_zero, Nat.reduceAdd]
  go_wp2_with fail
  refine (HI.out _ _ _ _ _ _ _ _ hT).mono ?_
  clear hT
  rintro e w14 ⟨rfl, hT⟩
  rw [← HB.out]
  simp only [List.length_append, List.length_nil, List.length_singleton, Nat.zero_add, Nat.add_zero, Nat.reduceAdd]
  go_wp2_with fail
  refine (HI.out _ _ _ _ _ _ _ _ hT).mono ?_
  clear hT
  rintro e w15 ⟨rfl, hT⟩
  rw [← HB.out]
  simp only [List.length_append, List.length_nil, List.length_singleton, Nat.zero_add, Nat.add_zero, Nat.reduceAdd]
  go_wp2_with fail
  refine (HI.out _ _ _ _ _ _ _ _ hT).mono ?_
  clear hT
  rintro e w16 ⟨rfl, hT⟩
  rw [← HB.out]
  simp only [List.length_append, List.length_nil, List.length_singleton, Nat.zero_add, Nat.add_zero, Nat.reduceAdd]
  go_wp2_with fail
  refine (HI.out _ _ _ _ _ _ _ _ hT).mono ?_
  clear hT
  rintro e w17 ⟨rfl, hT⟩
  rw [← HB.out]
  simp only [List.length_append, List.length_nil, List.length_singleton, Nat.zero_add, Nat.add_zero, Nat.reduceAdd]
  go_wp2_with fail
  refine (HI.out _ _ _ _ _ _ _ _ hT).mono ?_
  clear hT
  rintro e w18 ⟨rfl, hT⟩
  rw [← HB.out]
  simp only [List.length_append, List.length_nil, List.length_singleton, Nat.zero_add, Nat.add_zero, Nat.reduceAdd]
  go_wp2_with fail
  refine (HI.out _ _ _ _ _ _ _ _ hT).mono ?_
  clear hT
  rintro e w19 ⟨rfl, hT⟩
  rw [← HB.out]
  simp only [List.length_append, List.length_nil, List.length_singleton, Nat.zero_add, Nat.add_zero, Nat.reduceAdd]
  go_wp2_with fail
  refine (HI.out _ _ _ _ _ _ _ _ hT).mono ?_
  clear hT
  rintro e w20 ⟨rfl, hT⟩
  rw [← HB.out]
  simp only [List.length_append, List.length_nil, List.length_singleton, Nat.zero_add, Nat.add_zero, Nat.reduceAdd]
  go_wp2_with fail
  refine (HR.out _ _ _ _ _ _ _ _ _ _ hT).mono ?_
  clear hT
  rintro e w21 ⟨rfl, hT⟩
  rw [← HB.out]
  simp only [List.length_append, List.length_nil, List.length_singleton, Nat.zero_add, Nat.add_zero, Nat.reduceAdd]
  go_wp2_with fail
  refine (HR.out _ _ _ _ _ _ _ _ _ _ hT).mono ?_
  clear hT
  rintro e w22 ⟨rfl, hT⟩
  rw [← HB.out]
  simp only [List.length_append, List.length_nil, List.length_singleton, Nat.zero_add, Nat.add_zero, Nat.reduceAdd]
  go_wp2_with fail
  refine (HR.out _ _ _ _ _ _ _ _ _ _ hT).mono ?_
  clear hT
  rintro e w23 ⟨rfl, hT⟩
  rw [← HB.out]
  simp only [List.length_append, List.length_nil, List.length_singleton, Nat.zero_add, Nat.add_zero, Nat.reduceAdd]
  go_wp2_with fail
  refine (HR.out _ _ _ _ _ _ _ _ _ _ hT).mono ?_
  clear hT
  rintro e w24 ⟨rfl, hT⟩
  rw [← HB.out]
  simp only [List.length_append, List.length_nil, List.length_singleton, Nat.zero_add, Nat.add_zero, Nat.reduceAdd]
  go_wp2_with fail
  refine (HR.out _ _ _ _ _ _ _ _ _ _ hT).mono ?_
  clear hT
  rintro e w25 ⟨rfl, hT⟩
  rw [← HB.out]
  simp only [List.length_append, List.length_nil, List.length_singleton, Nat.zero_add, Nat.add_zero, Nat.reduceAdd]
  go_wp2_with fail
  refine (HR.out _ _ _ _ _ _ _ _ _ _ hT).mono ?_
  clear hT
  rintro e w26 ⟨rfl, hT⟩
  rw [← HB.out]
  simp only [List.length_append, List.length_nil, List.length_singleton, Nat.zero_add, Nat.add_zero, Nat.reduceAdd]
  go_wp2_with fail
  refine (HR.out _ _ _ _ _ _ _ _ _ _ hT).mono ?_
  clear hT
  rintro e w27 ⟨rfl, hT⟩
  rw [← HB.out]
  simp only [List.length_append, List.length_nil, List.length_singleton, Nat.zero_add, Nat.add_zero, Nat.reduceAdd]
  go_wp2_with fail
  refine (HR.out _ _ _ _ _ _ _ _ _ _ hT).mono ?_
  clear hT
  rintro e w28 ⟨rfl, hT⟩
  rw [← HB.out]
  simp only [List.length_append, List.length_nil, List.length_singleton, Nat.zero_add, Nat.add_zero, Nat.reduceAdd]
  go_wp2_with fail
  refine (HR.out _ _ _ _ _ _ _ _ _ _ hT).mono ?_
  clear hT
  rintro e w29 ⟨rfl, hT⟩
  rw [← HB.out]
  simp only [List.length_append, List.length_nil, List.length_singleton, Nat.zero_add, Nat.add_zero, Nat.reduceAdd]
  go_wp2_with fail
  refine (H1.out _ _ hT).mono ?_
  clear hT
  rintro e w30 ⟨rfl, hT⟩
  rw [← HB.out]
  simp only [List.length_append, List.length_nil, List.length_singleton, Nat.zero_add, Nat.add_zero, Nat.reduceAdd]
  obtain ⟨hz, hbel, hall⟩ := tab_all hT (by kernel_rfl)
  have HZ := hid hz
  have HBL := hid hbel
  have HALL := hid hall
  have hA := hid (Arr.of_new w30 35 (ptrs B).toArray)
  clear hT hz hbel hall
  go_wp2_with fail
  go_ret
  refine ⟨w30.heap.size, rfl, ?_, fun k hk => (HALL.out k hk).alloc _, HBL.out.alloc (by have := HZ.out; omega) _⟩
  rw [← HB.out]
  exact hA.out
end Go.Proofs.Ytfmjkflihnfneaa
