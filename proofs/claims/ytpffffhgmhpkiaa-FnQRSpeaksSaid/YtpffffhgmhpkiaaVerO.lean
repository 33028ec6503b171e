/- decoder.versionOf: what a version is, and the blocks that make it. -/
import Derived.Test.YtpffffhgmhpkiaaVerN
namespace Go.Proofs.Ytpffffhgmhpkiaa
open Go.RowKit
set_option linter.unusedVariables false

abbrev VRow := List Nat × List (Nat × List (Nat × Nat))
/-- The words and blocks of a level's place. -/
def VRow.lv (T : VRow) (j : Nat) : Nat × List (Nat × Nat) := T.2.getD j (0, [])

/-- Block q is a version with these numbers. -/
def IsVer (w : World) (q v : Nat) (T : VRow) : Prop :=
  ∃ (C E : Nat) (z : Int), Arr w q 136 [.int .i64 v, .slice (some ⟨C, 0, none⟩) T.1.length T.1.length, .slice (some ⟨E, 0, none⟩) 4 4, .int .i64 z] ∧
    Arr w C 3 (T.1.map fun (x : Nat) => Value.int .i64 x) ∧
    ∀ j, j < 4 → ∃ B, w.cell? ⟨E, 2 * j, none⟩ = some (.int .i64 (T.lv j).1) ∧ w.cell? ⟨E, 2 * j + 1, none⟩ = some (.slice (some ⟨B, 0, none⟩) (T.lv j).2.length (T.lv j).2.length) ∧ Arr w B 194 (flatB (T.lv j).2)
def VerOut (v : Nat) (T : VRow) (w : World) (e : Ending) (w' : World) : Prop :=
  ∃ q, e = .returned (.pointer (some ⟨q, 0, none⟩)) ∧ IsVer w' q v T ∧ Below w.heap.size w w'

theorem newVer6 (w : World) (v : Nat) (cs : List Nat) (e0 e1 e2 e3 : Nat) (l0 l1 l2 l3 : List (Nat × Nat)) (h0 : l0.length ≤ 2) :
    Calls Try.prog 119 #[.int .i64 v, .slice (some ⟨w.heap.size, 0, none⟩) cs.length cs.length, .slice (some ⟨w.heap.size + 5, 0, none⟩) 4 4]
      ((((((w.alloc (.cells (cs.map fun (x : Nat) => Value.int .i64 x).toArray 3)).alloc (.cells (flatB l0).toArray 194)).alloc (.cells (flatB l1).toArray 194)).alloc (.cells (flatB l2).toArray 194)).alloc (.cells (flatB l3).toArray 194)).alloc (.cells #[.int .i64 e0, .slice (some ⟨w.heap.size + 1, 0, none⟩) l0.length l0.length, .int .i64 e1, .slice (some ⟨w.heap.size + 2, 0, none⟩) l1.length l1.length, .int .i64 e2, .slice (some ⟨w.heap.size + 3, 0, none⟩) l2.length l2.length, .int .i64 e3, .slice (some ⟨w.heap.size + 4, 0, none⟩) l3.length l3.length] 197))
      (VerOut v (cs, [(e0, l0), (e1, l1), (e2, l2), (e3, l3)]) w) := by
  have a1 := Arr.of_new w 3 (cs.map fun (x : Nat) => Value.int .i64 x).toArray
  generalize hW1 : w.alloc (.cells (cs.map fun (x : Nat) => Value.int .i64 x).toArray 3) = W1 at *
  have b1 : Below w.heap.size w W1 := by rw [← hW1]; exact (Below.refl _ _).alloc (Nat.le_refl _) _
  have s1 : W1.heap.size = w.heap.size + 1 := by rw [← hW1]; simp
  have a2 := Arr.of_new W1 194 (flatB l0).toArray
  have a1 := a1.alloc (.cells (flatB l0).toArray 194)
  have b1 := b1.alloc b1.size (.cells (flatB l0).toArray 194)
  generalize hW2 : W1.alloc (.cells (flatB l0).toArray 194) = W2 at *
  have s2 : W2.heap.size = w.heap.size + 2 := by rw [← hW2]; simp [s1]
  have a3 := Arr.of_new W2 194 (flatB l1).toArray
  have a1 := a1.alloc (.cells (flatB l1).toArray 194)
  have a2 := a2.alloc (.cells (flatB l1).toArray 194)
  have b1 := b1.alloc b1.size (.cells (flatB l1).toArray 194)
  generalize hW3 : W2.alloc (.cells (flatB l1).toArray 194) = W3 at *
  have s3 : W3.heap.size = w.heap.size + 3 := by rw [← hW3]; simp [s2]
  have a4 := Arr.of_new W3 194 (flatB l2).toArray
  have a1 := a1.alloc (.cells (flatB l2).toArray 194)
  have a2 := a2.alloc (.cells (flatB l2).toArray 194)
  have a3 := a3.alloc (.cells (flatB l2).toArray 194)
  have b1 := b1.alloc b1.size (.cells (flatB l2).toArray 194)
  generalize hW4 : W3.alloc (.cells (flatB l2).toArray 194) = W4 at *
  have s4 : W4.heap.size = w.heap.size + 4 := by rw [← hW4]; simp [s3]
  have a5 := Arr.of_new W4 194 (flatB l3).toArray
  have a1 := a1.alloc (.cells (flatB l3).toArray 194)
  have a2 := a2.alloc (.cells (flatB l3).toArray 194)
  have a3 := a3.alloc (.cells (flatB l3).toArray 194)
  have a4 := a4.alloc (.cells (flatB l3).toArray 194)
  have b1 := b1.alloc b1.size (.cells (flatB l3).toArray 194)
  generalize hW5 : W4.alloc (.cells (flatB l3).toArray 194) = W5 at *
  have s5 : W5.heap.size = w.heap.size + 5 := by rw [← hW5]; simp [s4]
  generalize hcE : (#[.int .i64 e0, .slice (some ⟨w.heap.size + 1, 0, none⟩) l0.length l0.length, .int .i64 e1, .slice (some ⟨w.heap.size + 2, 0, none⟩) l1.length l1.length, .int .i64 e2, .slice (some ⟨w.heap.size + 3, 0, none⟩) l2.length l2.length, .int .i64 e3, .slice (some ⟨w.heap.size + 4, 0, none⟩) l3.length l3.length] : Array Value) = cE
  have a6 := Arr.of_new W5 197 cE
  have a1 := a1.alloc (.cells cE 197)
  have a2 := a2.alloc (.cells cE 197)
  have a3 := a3.alloc (.cells cE 197)
  have a4 := a4.alloc (.cells cE 197)
  have a5 := a5.alloc (.cells cE 197)
  have b1 := b1.alloc b1.size (.cells cE 197)
  generalize hW6 : W5.alloc (.cells cE 197) = W6 at *
  have s6 : W6.heap.size = w.heap.size + 6 := by rw [← hW6]; simp [s5]
  rw [s1] at a2; rw [s2] at a3; rw [s3] at a4; rw [s4] at a5; rw [s5] at a6
  rw [← hcE] at a6
  have nv := newVer v cs.length (w.heap.size + 5) (w.heap.size + 1) l0.length (some ⟨w.heap.size, 0, none⟩) e0 l0 W6 (a6.cell? 0) (a6.cell? 1) a6.lt a2 rfl h0
  refine nv.mono ?_
  rintro e w' ⟨q, z, rfl, hq, hA, hb⟩
  have bb : ∀ (n : Nat), n < w.heap.size + 6 → n < W6.heap.size := fun n h => by omega
  refine ⟨q, rfl, ⟨w.heap.size, w.heap.size + 5, z, hA, a1.below hb (bb _ (by omega)), ?_⟩, b1.trans (hb.mono (by omega))⟩
  have a6' := a6.below hb (bb _ (by omega))
  intro j hj
  rcases (show j = 0 ∨ j = 1 ∨ j = 2 ∨ j = 3 by omega) with rfl | rfl | rfl | rfl
  · exact ⟨w.heap.size + 1, a6'.cell? 0, a6'.cell? 1, a2.below hb (bb _ (by omega))⟩
  · exact ⟨w.heap.size + 2, a6'.cell? 2, a6'.cell? 3, a3.below hb (bb _ (by omega))⟩
  · exact ⟨w.heap.size + 3, a6'.cell? 4, a6'.cell? 5, a4.below hb (bb _ (by omega))⟩
  · exact ⟨w.heap.size + 4, a6'.cell? 6, a6'.cell? 7, a5.below hb (bb _ (by omega))⟩
end Go.Proofs.Ytpffffhgmhpkiaa
