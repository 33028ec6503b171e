/- QR codes: spec.qrCorrection, QRCorrection, QRDataWords. Printed by gen_l.py. -/
import Derived.Test.YtpffffhgmhpkiaaQaD
import Derived.BigQuiet
import Derived.Deep.QuietTactic
namespace Go.Proofs.Ytpffffhgmhpkiaa
open Go.RowKit
set_option linter.unusedVariables false
set_option linter.unusedSimpArgs false
def ecA0 : Array Value := #[.int .i64 10, .int .i64 16, .int .i64 26, .int .i64 18, .int .i64 24, .int .i64 16, .int .i64 18, .int .i64 22, .int .i64 22, .int .i64 26, .int .i64 30, .int .i64 22, .int .i64 22, .int .i64 24, .int .i64 24, .int .i64 28, .int .i64 28, .int .i64 26, .int .i64 26, .int .i64 26, .int .i64 26, .int .i64 28, .int .i64 28, .int .i64 28, .int .i64 28, .int .i64 28, .int .i64 28, .int .i64 28, .int .i64 28, .int .i64 28, .int .i64 28, .int .i64 28, .int .i64 28, .int .i64 28, .int .i64 28, .int .i64 28, .int .i64 28, .int .i64 28, .int .i64 28, .int .i64 28]
def blA0 : Array Value := #[.int .i64 1, .int .i64 1, .int .i64 1, .int .i64 2, .int .i64 2, .int .i64 4, .int .i64 4, .int .i64 4, .int .i64 5, .int .i64 5, .int .i64 5, .int .i64 8, .int .i64 9, .int .i64 9, .int .i64 10, .int .i64 10, .int .i64 11, .int .i64 13, .int .i64 14, .int .i64 16, .int .i64 17, .int .i64 17, .int .i64 18, .int .i64 20, .int .i64 21, .int .i64 23, .int .i64 25, .int .i64 26, .int .i64 28, .int .i64 29, .int .i64 31, .int .i64 33, .int .i64 35, .int .i64 37, .int .i64 38, .int .i64 40, .int .i64 43, .int .i64 45, .int .i64 47, .int .i64 49]
def ecA1 : Array Value := #[.int .i64 7, .int .i64 10, .int .i64 15, .int .i64 20, .int .i64 26, .int .i64 18, .int .i64 20, .int .i64 24, .int .i64 30, .int .i64 18, .int .i64 20, .int .i64 24, .int .i64 26, .int .i64 30, .int .i64 22, .int .i64 24, .int .i64 28, .int .i64 30, .int .i64 28, .int .i64 28, .int .i64 28, .int .i64 28, .int .i64 30, .int .i64 30, .int .i64 26, .int .i64 28, .int .i64 30, .int .i64 30, .int .i64 30, .int .i64 30, .int .i64 30, .int .i64 30, .int .i64 30, .int .i64 30, .int .i64 30, .int .i64 30, .int .i64 30, .int .i64 30, .int .i64 30, .int .i64 30]
def blA1 : Array Value := #[.int .i64 1, .int .i64 1, .int .i64 1, .int .i64 1, .int .i64 1, .int .i64 2, .int .i64 2, .int .i64 2, .int .i64 2, .int .i64 4, .int .i64 4, .int .i64 4, .int .i64 4, .int .i64 4, .int .i64 6, .int .i64 6, .int .i64 6, .int .i64 6, .int .i64 7, .int .i64 8, .int .i64 8, .int .i64 9, .int .i64 9, .int .i64 10, .int .i64 12, .int .i64 12, .int .i64 12, .int .i64 13, .int .i64 14, .int .i64 15, .int .i64 16, .int .i64 17, .int .i64 18, .int .i64 19, .int .i64 19, .int .i64 20, .int .i64 21, .int .i64 22, .int .i64 24, .int .i64 25]
def ecA2 : Array Value := #[.int .i64 17, .int .i64 28, .int .i64 22, .int .i64 16, .int .i64 22, .int .i64 28, .int .i64 26, .int .i64 26, .int .i64 24, .int .i64 28, .int .i64 24, .int .i64 28, .int .i64 22, .int .i64 24, .int .i64 24, .int .i64 30, .int .i64 28, .int .i64 28, .int .i64 26, .int .i64 28, .int .i64 30, .int .i64 24, .int .i64 30, .int .i64 30, .int .i64 30, .int .i64 30, .int .i64 30, .int .i64 30, .int .i64 30, .int .i64 30, .int .i64 30, .int .i64 30, .int .i64 30, .int .i64 30, .int .i64 30, .int .i64 30, .int .i64 30, .int .i64 30, .int .i64 30, .int .i64 30]
def blA2 : Array Value := #[.int .i64 1, .int .i64 1, .int .i64 2, .int .i64 4, .int .i64 4, .int .i64 4, .int .i64 5, .int .i64 6, .int .i64 8, .int .i64 8, .int .i64 11, .int .i64 11, .int .i64 16, .int .i64 16, .int .i64 18, .int .i64 16, .int .i64 19, .int .i64 21, .int .i64 25, .int .i64 25, .int .i64 25, .int .i64 34, .int .i64 30, .int .i64 32, .int .i64 35, .int .i64 37, .int .i64 40, .int .i64 42, .int .i64 45, .int .i64 48, .int .i64 51, .int .i64 54, .int .i64 57, .int .i64 60, .int .i64 63, .int .i64 66, .int .i64 70, .int .i64 74, .int .i64 77, .int .i64 81]
def ecA3 : Array Value := #[.int .i64 13, .int .i64 22, .int .i64 18, .int .i64 26, .int .i64 18, .int .i64 24, .int .i64 18, .int .i64 22, .int .i64 20, .int .i64 24, .int .i64 28, .int .i64 26, .int .i64 24, .int .i64 20, .int .i64 30, .int .i64 24, .int .i64 28, .int .i64 28, .int .i64 26, .int .i64 30, .int .i64 28, .int .i64 30, .int .i64 30, .int .i64 30, .int .i64 30, .int .i64 28, .int .i64 30, .int .i64 30, .int .i64 30, .int .i64 30, .int .i64 30, .int .i64 30, .int .i64 30, .int .i64 30, .int .i64 30, .int .i64 30, .int .i64 30, .int .i64 30, .int .i64 30, .int .i64 30]
def blA3 : Array Value := #[.int .i64 1, .int .i64 1, .int .i64 2, .int .i64 2, .int .i64 4, .int .i64 4, .int .i64 6, .int .i64 6, .int .i64 8, .int .i64 8, .int .i64 8, .int .i64 10, .int .i64 12, .int .i64 16, .int .i64 12, .int .i64 17, .int .i64 16, .int .i64 18, .int .i64 21, .int .i64 20, .int .i64 23, .int .i64 23, .int .i64 25, .int .i64 27, .int .i64 29, .int .i64 34, .int .i64 34, .int .i64 35, .int .i64 38, .int .i64 40, .int .i64 43, .int .i64 45, .int .i64 48, .int .i64 51, .int .i64 53, .int .i64 56, .int .i64 59, .int .i64 62, .int .i64 65, .int .i64 68]
def Bnd (a : Array Value) : Prop := ∀ k, k < 40 → ∃ x : Nat, a.toList[k]? = some (.int .i64 (x : Int)) ∧ x ≤ 100
def bndB (a : Array Value) : Bool := (List.range 40).all fun k => match a.toList[k]? with | some (.int .i64 (.ofNat x)) => decide (x ≤ 100) | _ => false
theorem bnd_of {a : Array Value} (h : bndB a = true) : Bnd a := fun k hk => by
  have := List.all_eq_true.1 h k (List.mem_range.2 hk)
  split at this
  · rename_i x e
    exact ⟨x, e, by simpa using this⟩
  · cases this
theorem bnd0 : Bnd ecA0 ∧ Bnd blA0 := ⟨bnd_of (by decide +kernel), bnd_of (by decide +kernel)⟩
theorem bnd1 : Bnd ecA1 ∧ Bnd blA1 := ⟨bnd_of (by decide +kernel), bnd_of (by decide +kernel)⟩
theorem bnd2 : Bnd ecA2 ∧ Bnd blA2 := ⟨bnd_of (by decide +kernel), bnd_of (by decide +kernel)⟩
theorem bnd3 : Bnd ecA3 ∧ Bnd blA3 := ⟨bnd_of (by decide +kernel), bnd_of (by decide +kernel)⟩
theorem heap_setRow_far (w : World) (g k : Nat) (c : Array Value) (h : k ≠ g) : (w.setRow g c).heap[k]? = w.heap[k]? := by
  simp only [World.setRow, Array.getElem?_modify]
  rw [if_neg (fun e => h e.symm)]
theorem heap_setRow_at (w : World) (g : Nat) (c old : Array Value) (t : TypeId) (h : w.heap[g]? = some (.cells old t (0, 0))) : (w.setRow g c).heap[g]? = some (.cells c t (0, 0)) := by
  simp only [World.setRow, Array.getElem?_modify, if_true, h]
  rfl
theorem size_setRow (w : World) (g : Nat) (c : Array Value) : (w.setRow g c).heap.size = w.heap.size := by simp [World.setRow]
theorem below_setRow {B : Nat} {a w : World} (h : Below B a w) (g : Nat) (c : Array Value) (hg : B ≤ g) : Below B a (w.setRow g c) :=
  ⟨h.os, h.tape, h.output, by rw [size_setRow]; exact h.size, fun k hk => (heap_setRow_far w g k c (by omega)).trans (h.block k hk)⟩
section
variable (w : World) (c1 c2 d1 d2 : Array Value)
theorem st1 : ((w.alloc (.cells c1 186)).alloc (.cells c2 186)).heap[w.heap.size]? = some (.cells c1 186 (0, 0)) :=
  (Below.heap_alloc _ _ _ (by simp)).trans (heap_alloc_new w _)
theorem st2a : ((w.alloc (.cells c1 186)).alloc (.cells c2 186)).heap[w.heap.size + 1]? = some (.cells c2 186 (0, 0)) := by
  have := heap_alloc_new (w.alloc (.cells c1 186)) (.cells c2 186)
  rwa [World.size_alloc] at this
theorem st2 : (((w.alloc (.cells c1 186)).alloc (.cells c2 186)).setRow w.heap.size d1).heap[w.heap.size + 1]? = some (.cells c2 186 (0, 0)) :=
  (heap_setRow_far _ _ _ _ (by omega)).trans (st2a w c1 c2)
theorem st3 : ((((w.alloc (.cells c1 186)).alloc (.cells c2 186)).setRow w.heap.size d1).setRow (w.heap.size + 1) d2).heap[w.heap.size]? = some (.cells d1 186 (0, 0)) :=
  (heap_setRow_far _ _ _ _ (by omega)).trans (heap_setRow_at _ _ _ _ _ (st1 w c1 c2))
theorem st4 : ((((w.alloc (.cells c1 186)).alloc (.cells c2 186)).setRow w.heap.size d1).setRow (w.heap.size + 1) d2).heap[w.heap.size + 1]? = some (.cells d2 186 (0, 0)) :=
  heap_setRow_at _ _ _ _ _ (st2 w c1 c2 d1)
theorem stB : Below w.heap.size w ((((w.alloc (.cells c1 186)).alloc (.cells c2 186)).setRow w.heap.size d1).setRow (w.heap.size + 1) d2) :=
  below_setRow (below_setRow (((Below.refl _ _).alloc (Nat.le_refl _) _).alloc (by simp) _) _ _ (Nat.le_refl _)) _ _ (by omega)
end
theorem wpList_buildA {P : Program} {ops : Array Oper} {rest : List Oper} {o : Oper} {a : Act} {w : World} {Q : Exit → Act → World → Prop} (d : Nat) (hd : o.dst = some d) (hg : o.guard = none) (t : TypeId) (parts : Array (Nat × Operand)) (ho : o.op = .build t parts) (arr : Array Value)
    (he : P.built t (parts.map fun (i, x) => (i, a.eval x)).toList = some arr) (h : wpList P ops Q rest (a.put o.dst (.agg arr)) w) : wpList P ops Q (o :: rest) a w :=
  wpList_build hg t parts ho (by rw [he]; rfl) (by rw [he]; exact h)
theorem size186 {c : Array Value} (h : c.size = 40) : (Try.prog.info? 186).map (·.size) = some c.size := by rw [h]; kernel_rfl
theorem results_two {fn : Func} {p q : Tmp} (h : fn.results = #[.cell p 186, .cell q 186]) (tmps : Array Value) (w : World) (g1 g2 : Nat) (d1 d2 : Array Value) (hp : tmps.getD p undef = .pointer (some ⟨g1, 0, none⟩)) (hq : tmps.getD q undef = .pointer (some ⟨g2, 0, none⟩))
    (h1 : w.heap[g1]? = some (.cells d1 186 (0, 0))) (h2 : w.heap[g2]? = some (.cells d2 186 (0, 0))) (s1 : d1.size = 40) (s2 : d2.size = 40) : (results fn tmps).run Try.prog w = .ok (.tuple #[.agg d1, .agg d2]) w := by
  have hp' : tmps[p]?.getD undef = .pointer (some ⟨g1, 0, none⟩) := by simpa using hp
  have hq' : tmps[q]?.getD undef = .pointer (some ⟨g2, 0, none⟩) := by simpa using hq
  simp [results, h, hp', hq', asAddr, run_loadVar_row w g1 186 186 d1 (0, 0) _ h1 Try.underlying186 rfl (size186 s1), run_loadVar_row w g2 186 186 d2 (0, 0) _ h2 Try.underlying186 rfl (size186 s2)]
set_option maxRecDepth 100000 in
set_option maxHeartbeats 16000000 in
theorem corr0 (w : World) : Calls Try.prog 118 #[.int .i64 0] w fun e w' => e = .returned (.tuple #[.agg ecA0, .agg blA0]) ∧ Below w.heap.size w w' := by
  go_enter Try.func118, Try.ntmps118
  go_wp2_with (first
    | (refine wpList_buildA 11 rfl rfl 186 _ rfl ecA0 (by kernel_rfl) ?_)
    | (refine wpList_buildA 12 rfl rfl 186 _ rfl blA0 (by kernel_rfl) ?_)
    | (refine wpList_store_row rfl 186 _ _ rfl w.heap.size ecA0 rfl rfl 186 _ (st1 w _ _) (size186 (by kernel_rfl)) (by kernel_rfl) (by kernel_rfl) ?_; dsimp only [Act.put])
    | (refine wpList_store_row rfl 186 _ _ rfl (w.heap.size + 1) blA0 rfl rfl 186 _ (st2 w _ _ _) (size186 (by kernel_rfl)) (by kernel_rfl) (by kernel_rfl) ?_; dsimp only [Act.put]))
  refine bodyPost_ret (v := .tuple #[.agg ecA0, .agg blA0]) ?_ (by rfl) ?_
  · exact results_two rfl _ _ w.heap.size (w.heap.size + 1) ecA0 blA0 rfl rfl (st3 w _ _ _ _) (st4 w _ _ _ _) (by kernel_rfl) (by kernel_rfl)
  · exact ⟨rfl, stB w _ _ _ _⟩
set_option maxRecDepth 100000 in
set_option maxHeartbeats 16000000 in
theorem corr1 (w : World) : Calls Try.prog 118 #[.int .i64 1] w fun e w' => e = .returned (.tuple #[.agg ecA1, .agg blA1]) ∧ Below w.heap.size w w' := by
  go_enter Try.func118, Try.ntmps118
  go_wp2_with (first
    | (refine wpList_buildA 7 rfl rfl 186 _ rfl ecA1 (by kernel_rfl) ?_)
    | (refine wpList_buildA 8 rfl rfl 186 _ rfl blA1 (by kernel_rfl) ?_)
    | (refine wpList_store_row rfl 186 _ _ rfl w.heap.size ecA1 rfl rfl 186 _ (st1 w _ _) (size186 (by kernel_rfl)) (by kernel_rfl) (by kernel_rfl) ?_; dsimp only [Act.put])
    | (refine wpList_store_row rfl 186 _ _ rfl (w.heap.size + 1) blA1 rfl rfl 186 _ (st2 w _ _ _) (size186 (by kernel_rfl)) (by kernel_rfl) (by kernel_rfl) ?_; dsimp only [Act.put]))
  refine bodyPost_ret (v := .tuple #[.agg ecA1, .agg blA1]) ?_ (by rfl) ?_
  · exact results_two rfl _ _ w.heap.size (w.heap.size + 1) ecA1 blA1 rfl rfl (st3 w _ _ _ _) (st4 w _ _ _ _) (by kernel_rfl) (by kernel_rfl)
  · exact ⟨rfl, stB w _ _ _ _⟩
set_option maxRecDepth 100000 in
set_option maxHeartbeats 16000000 in
theorem corr2 (w : World) : Calls Try.prog 118 #[.int .i64 2] w fun e w' => e = .returned (.tuple #[.agg ecA2, .agg blA2]) ∧ Below w.heap.size w w' := by
  go_enter Try.func118, Try.ntmps118
  go_wp2_with (first
    | (refine wpList_buildA 17 rfl rfl 186 _ rfl ecA2 (by kernel_rfl) ?_)
    | (refine wpList_buildA 18 rfl rfl 186 _ rfl blA2 (by kernel_rfl) ?_)
    | (refine wpList_store_row rfl 186 _ _ rfl w.heap.size ecA2 rfl rfl 186 _ (st1 w _ _) (size186 (by kernel_rfl)) (by kernel_rfl) (by kernel_rfl) ?_; dsimp only [Act.put])
    | (refine wpList_store_row rfl 186 _ _ rfl (w.heap.size + 1) blA2 rfl rfl 186 _ (st2 w _ _ _) (size186 (by kernel_rfl)) (by kernel_rfl) (by kernel_rfl) ?_; dsimp only [Act.put]))
  refine bodyPost_ret (v := .tuple #[.agg ecA2, .agg blA2]) ?_ (by rfl) ?_
  · exact results_two rfl _ _ w.heap.size (w.heap.size + 1) ecA2 blA2 rfl rfl (st3 w _ _ _ _) (st4 w _ _ _ _) (by kernel_rfl) (by kernel_rfl)
  · exact ⟨rfl, stB w _ _ _ _⟩
set_option maxRecDepth 100000 in
set_option maxHeartbeats 16000000 in
theorem corr3 (w : World) : Calls Try.prog 118 #[.int .i64 3] w fun e w' => e = .returned (.tuple #[.agg ecA3, .agg blA3]) ∧ Below w.heap.size w w' := by
  go_enter Try.func118, Try.ntmps118
  go_wp2_with (first
    | (refine wpList_buildA 15 rfl rfl 186 _ rfl ecA3 (by kernel_rfl) ?_)
    | (refine wpList_buildA 16 rfl rfl 186 _ rfl blA3 (by kernel_rfl) ?_)
    | (refine wpList_store_row rfl 186 _ _ rfl w.heap.size ecA3 rfl rfl 186 _ (st1 w _ _) (size186 (by kernel_rfl)) (by kernel_rfl) (by kernel_rfl) ?_; dsimp only [Act.put])
    | (refine wpList_store_row rfl 186 _ _ rfl (w.heap.size + 1) blA3 rfl rfl 186 _ (st2 w _ _ _) (size186 (by kernel_rfl)) (by kernel_rfl) (by kernel_rfl) ?_; dsimp only [Act.put]))
  refine bodyPost_ret (v := .tuple #[.agg ecA3, .agg blA3]) ?_ (by rfl) ?_
  · exact results_two rfl _ _ w.heap.size (w.heap.size + 1) ecA3 blA3 rfl rfl (st3 w _ _ _ _) (st4 w _ _ _ _) (by kernel_rfl) (by kernel_rfl)
  · exact ⟨rfl, stB w _ _ _ _⟩
/-- How many error correction words and blocks: small numbers. -/
def CorrOut (v : Nat) (w : World) (e : Ending) (w' : World) : Prop := ∃ a b : Nat, e = .returned (.tuple #[.int .i64 (a : Int), .int .i64 (b : Int)]) ∧ a ≤ 100 ∧ b ≤ 100 ∧ Below w.heap.size w w'
set_option maxRecDepth 100000 in
set_option maxHeartbeats 16000000 in
theorem corrQ (v l : Nat) (hl : l < 4) (h1 : 1 ≤ v) (h2 : v ≤ 40) (w : World) : Calls Try.prog 78 #[.int .i64 v, .int .i64 l] w (CorrOut v w) := by
  obtain ⟨ec, bl, hb, hc, he, hbs⟩ : ∃ ec bl : Array Value, (Bnd ec ∧ Bnd bl) ∧ (∀ W, Calls Try.prog 118 #[.int .i64 l] W fun e w' => e = .returned (.tuple #[.agg ec, .agg bl]) ∧ Below W.heap.size W w') ∧ (ec.size = 40 ∧ ec.all (·.oneCell') = true) ∧ (bl.size = 40 ∧ bl.all (·.oneCell') = true) := by
    obtain rfl | rfl | rfl | rfl : l = 0 ∨ l = 1 ∨ l = 2 ∨ l = 3 := by omega
    · exact ⟨ecA0, blA0, bnd0, corr0, ⟨by kernel_rfl, by kernel_rfl⟩, ⟨by kernel_rfl, by kernel_rfl⟩⟩
    · exact ⟨ecA1, blA1, bnd1, corr1, ⟨by kernel_rfl, by kernel_rfl⟩, ⟨by kernel_rfl, by kernel_rfl⟩⟩
    · exact ⟨ecA2, blA2, bnd2, corr2, ⟨by kernel_rfl, by kernel_rfl⟩, ⟨by kernel_rfl, by kernel_rfl⟩⟩
    · exact ⟨ecA3, blA3, bnd3, corr3, ⟨by kernel_rfl, by kernel_rfl⟩, ⟨by kernel_rfl, by kernel_rfl⟩⟩
  obtain ⟨k, hk⟩ : ∃ k, k = v - 1 := ⟨_, rfl⟩
  obtain ⟨a, ha, ha1⟩ := hb.1 k (by omega)
  obtain ⟨b, hbb, hb1⟩ := hb.2 k (by omega)
  have hk' : (v : Int) - 1 = (k : Int) := by omega
  have hw' : IntKind.i64.wrap ((v : Int) - 1) = (k : Int) := by rw [IntWalk.i64_in _ ⟨by omega, by omega⟩]; exact hk'
  have hk40 : (k : Int) < 40 := by omega
  have HC := hid hc
  clear hc hb hk
  go_enter Try.func78, Try.ntmps78
  go_wp2_with (first
    | (go_at_call 118; ((with_reducible refine (HC.out _).mono ?_); rintro e w1 ⟨rfl, hb1'⟩))
    | (refine wpList_store_row rfl 186 _ _ rfl w1.heap.size ec rfl rfl 186 _ (st1 w1 _ _) (size186 he.1) (by rw [he.1]; rfl) he.2 ?_; dsimp only [Act.put])
    | (refine wpList_store_row rfl 186 _ _ rfl (w1.heap.size + 1) bl rfl rfl 186 _ (st2 w1 _ _ _) (size186 hbs.1) (by rw [hbs.1]; rfl) hbs.2 ?_; dsimp only [Act.put]))
  have c1 := (cell_of_row _ _ k _ _ _ (st3 w1 #[.int .i64 0, .int .i64 0, .int .i64 0, .int .i64 0, .int .i64 0, .int .i64 0, .int .i64 0, .int .i64 0, .int .i64 0, .int .i64 0, .int .i64 0, .int .i64 0, .int .i64 0, .int .i64 0, .int .i64 0, .int .i64 0, .int .i64 0, .int .i64 0, .int .i64 0, .int .i64 0, .int .i64 0, .int .i64 0, .int .i64 0, .int .i64 0, .int .i64 0, .int .i64 0, .int .i64 0, .int .i64 0, .int .i64 0, .int .i64 0, .int .i64 0, .int .i64 0, .int .i64 0, .int .i64 0, .int .i64 0, .int .i64 0, .int .i64 0, .int .i64 0, .int .i64 0, .int .i64 0] #[.int .i64 0, .int .i64 0, .int .i64 0, .int .i64 0, .int .i64 0, .int .i64 0, .int .i64 0, .int .i64 0, .int .i64 0, .int .i64 0, .int .i64 0, .int .i64 0, .int .i64 0, .int .i64 0, .int .i64 0, .int .i64 0, .int .i64 0, .int .i64 0, .int .i64 0, .int .i64 0, .int .i64 0, .int .i64 0, .int .i64 0, .int .i64 0, .int .i64 0, .int .i64 0, .int .i64 0, .int .i64 0, .int .i64 0, .int .i64 0, .int .i64 0, .int .i64 0, .int .i64 0, .int .i64 0, .int .i64 0, .int .i64 0, .int .i64 0, .int .i64 0, .int .i64 0, .int .i64 0] ec bl)).trans (by rw [← Array.getElem?_toList, ha])
  have c2 := (cell_of_row _ _ k _ _ _ (st4 w1 #[.int .i64 0, .int .i64 0, .int .i64 0, .int .i64 0, .int .i64 0, .int .i64 0, .int .i64 0, .int .i64 0, .int .i64 0, .int .i64 0, .int .i64 0, .int .i64 0, .int .i64 0, .int .i64 0, .int .i64 0, .int .i64 0, .int .i64 0, .int .i64 0, .int .i64 0, .int .i64 0, .int .i64 0, .int .i64 0, .int .i64 0, .int .i64 0, .int .i64 0, .int .i64 0, .int .i64 0, .int .i64 0, .int .i64 0, .int .i64 0, .int .i64 0, .int .i64 0, .int .i64 0, .int .i64 0, .int .i64 0, .int .i64 0, .int .i64 0, .int .i64 0, .int .i64 0, .int .i64 0] #[.int .i64 0, .int .i64 0, .int .i64 0, .int .i64 0, .int .i64 0, .int .i64 0, .int .i64 0, .int .i64 0, .int .i64 0, .int .i64 0, .int .i64 0, .int .i64 0, .int .i64 0, .int .i64 0, .int .i64 0, .int .i64 0, .int .i64 0, .int .i64 0, .int .i64 0, .int .i64 0, .int .i64 0, .int .i64 0, .int .i64 0, .int .i64 0, .int .i64 0, .int .i64 0, .int .i64 0, .int .i64 0, .int .i64 0, .int .i64 0, .int .i64 0, .int .i64 0, .int .i64 0, .int .i64 0, .int .i64 0, .int .i64 0, .int .i64 0, .int .i64 0, .int .i64 0, .int .i64 0] ec bl)).trans (by rw [← Array.getElem?_toList, hbb])
  have HB := hid ((hb1'.trans ((stB w1 #[.int .i64 0, .int .i64 0, .int .i64 0, .int .i64 0, .int .i64 0, .int .i64 0, .int .i64 0, .int .i64 0, .int .i64 0, .int .i64 0, .int .i64 0, .int .i64 0, .int .i64 0, .int .i64 0, .int .i64 0, .int .i64 0, .int .i64 0, .int .i64 0, .int .i64 0, .int .i64 0, .int .i64 0, .int .i64 0, .int .i64 0, .int .i64 0, .int .i64 0, .int .i64 0, .int .i64 0, .int .i64 0, .int .i64 0, .int .i64 0, .int .i64 0, .int .i64 0, .int .i64 0, .int .i64 0, .int .i64 0, .int .i64 0, .int .i64 0, .int .i64 0, .int .i64 0, .int .i64 0] #[.int .i64 0, .int .i64 0, .int .i64 0, .int .i64 0, .int .i64 0, .int .i64 0, .int .i64 0, .int .i64 0, .int .i64 0, .int .i64 0, .int .i64 0, .int .i64 0, .int .i64 0, .int .i64 0, .int .i64 0, .int .i64 0, .int .i64 0, .int .i64 0, .int .i64 0, .int .i64 0, .int .i64 0, .int .i64 0, .int .i64 0, .int .i64 0, .int .i64 0, .int .i64 0, .int .i64 0, .int .i64 0, .int .i64 0, .int .i64 0, .int .i64 0, .int .i64 0, .int .i64 0, .int .i64 0, .int .i64 0, .int .i64 0, .int .i64 0, .int .i64 0, .int .i64 0, .int .i64 0] ec bl).mono hb1'.size)))
  generalize ((((w1.alloc (.cells #[.int .i64 0, .int .i64 0, .int .i64 0, .int .i64 0, .int .i64 0, .int .i64 0, .int .i64 0, .int .i64 0, .int .i64 0, .int .i64 0, .int .i64 0, .int .i64 0, .int .i64 0, .int .i64 0, .int .i64 0, .int .i64 0, .int .i64 0, .int .i64 0, .int .i64 0, .int .i64 0, .int .i64 0, .int .i64 0, .int .i64 0, .int .i64 0, .int .i64 0, .int .i64 0, .int .i64 0, .int .i64 0, .int .i64 0, .int .i64 0, .int .i64 0, .int .i64 0, .int .i64 0, .int .i64 0, .int .i64 0, .int .i64 0, .int .i64 0, .int .i64 0, .int .i64 0, .int .i64 0] 186)).alloc (.cells #[.int .i64 0, .int .i64 0, .int .i64 0, .int .i64 0, .int .i64 0, .int .i64 0, .int .i64 0, .int .i64 0, .int .i64 0, .int .i64 0, .int .i64 0, .int .i64 0, .int .i64 0, .int .i64 0, .int .i64 0, .int .i64 0, .int .i64 0, .int .i64 0, .int .i64 0, .int .i64 0, .int .i64 0, .int .i64 0, .int .i64 0, .int .i64 0, .int .i64 0, .int .i64 0, .int .i64 0, .int .i64 0, .int .i64 0, .int .i64 0, .int .i64 0, .int .i64 0, .int .i64 0, .int .i64 0, .int .i64 0, .int .i64 0, .int .i64 0, .int .i64 0, .int .i64 0, .int .i64 0] 186)).setRow w1.heap.size ec).setRow (w1.heap.size + 1) bl) = w2 at *
  generalize w1.heap.size = g at *
  clear HC ha hbb he hbs
  go_quiet (fail)
  go_wp2_with fail
  go_ret2
  exact ⟨a, b, rfl, ha1, hb1, below_drewN HB.out _⟩
set_option maxRecDepth 20000 in
theorem wordsNumQ (v l : Nat) (hl : l < 4) (h1 : 1 ≤ v) (h2 : v ≤ 40) (w : World) : Calls Try.prog 48 #[.int .i64 v, .int .i64 l] w fun e w' => (∃ z : Int, e = .returned (.int .i64 z) ∧ z ≤ 3706 ∧ -10000 ≤ z) ∧ Below w.heap.size w w' := by
  have cq := corrQ v l hl h1 h2 w
  have tq := fun W => totalQ v h1 h2 W
  have htl := tot_le v h1 h2
  generalize totN v = t at *
  go_enter Try.func48, Try.ntmps48
  go_wp2_with fail
  refine cq.mono ?_
  rintro e w1 ⟨a, b, rfl, ha, hb, hb1⟩
  obtain ⟨m, hm⟩ : ∃ m, m = a * b := ⟨_, rfl⟩
  have hml : m ≤ 100 * 100 := by rw [hm]; exact Nat.mul_le_mul ha hb
  have hm' : (a : Int) * (b : Int) = (m : Int) := by rw [hm, Int.natCast_mul]
  have HB1 := hid hb1
  clear cq hm hb1
  go_wp2_with fail
  refine (tq _).mono ?_
  rintro e w2 ⟨rfl, hb2⟩
  have HB2 := hid (HB1.out.trans (hb2.mono HB1.out.size))
  clear hb2 tq
  go_wp2_with fail
  go_ret
  exact ⟨⟨_, rfl, by omega, by omega⟩, HB2.out⟩
end Go.Proofs.Ytpffffhgmhpkiaa
