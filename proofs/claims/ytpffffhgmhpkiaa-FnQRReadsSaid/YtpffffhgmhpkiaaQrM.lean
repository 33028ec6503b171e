/- QR codes: the modules of a symbol as a grid: what stands where. Plain. -/
import Derived.Test.YtpffffhgmhpkiaaQaV
namespace Go.Proofs.Ytpffffhgmhpkiaa
open Go.RowKit
set_option linter.unusedVariables false

theorem gv_of {v r c : Nat} (h : gvP v (17 + 4 * v) r c) : gvB v r c = true := by
  unfold gvB
  rw [(gv_iff v (17 + 4 * v) r c).2 h]; rfl
theorem p1_in (v i : Nat) (hv : 1 ≤ v) (hi : i < 15) : (p1 i).1 < 17 + 4 * v ∧ (p1 i).2 < 17 + 4 * v ∧ gvB v (p1 i).1 (p1 i).2 = true := by
  have h : (p1 i).1 ≤ 8 ∧ (p1 i).2 ≤ 8 := by
    unfold p1; repeat' split
    all_goals (dsimp only; omega)
  exact ⟨by omega, by omega, gv_of (by unfold gvP; omega)⟩
theorem p2_in (v i : Nat) (hv : 1 ≤ v) (hi : i < 15) : (p2 (17 + 4 * v) i).1 < 17 + 4 * v ∧ (p2 (17 + 4 * v) i).2 < 17 + 4 * v ∧ gvB v (p2 (17 + 4 * v) i).1 (p2 (17 + 4 * v) i).2 = true := by
  have h : ((p2 (17 + 4 * v) i).1 = 8 ∧ 17 + 4 * v ≤ (p2 (17 + 4 * v) i).2 + 8 ∧ (p2 (17 + 4 * v) i).2 < 17 + 4 * v) ∨ (17 + 4 * v ≤ (p2 (17 + 4 * v) i).1 + 7 ∧ (p2 (17 + 4 * v) i).1 < 17 + 4 * v ∧ (p2 (17 + 4 * v) i).2 = 8) := by
    unfold p2; repeat' split
    all_goals (dsimp only; omega)
  exact ⟨by omega, by omega, gv_of (by unfold gvP; omega)⟩
theorem pv_in (v i : Nat) (hv : 7 ≤ v) (hi : i < 18) : (pv (17 + 4 * v) i).1 < 17 + 4 * v ∧ (pv (17 + 4 * v) i).2 < 17 + 4 * v ∧ gvB v (pv (17 + 4 * v) i).1 (pv (17 + 4 * v) i).2 = true := by
  have h : (pv (17 + 4 * v) i).1 ≤ 5 ∧ 17 + 4 * v ≤ (pv (17 + 4 * v) i).2 + 11 ∧ (pv (17 + 4 * v) i).2 < 17 + 4 * v := by
    unfold pv
    dsimp only; omega
  exact ⟨by omega, by omega, gv_of (by unfold gvP; omega)⟩
/-- Rows of bools of which something is known, as a grid. -/
theorem grid_of {n : Nat} {Q : Nat → Nat → Bool → Prop} {X : Nat → List Value} (h : ∀ r, r < n → RowQ n Q r (X r)) : ∃ R : Nat → Nat → Bool, (∀ r, r < n → X r = brow R n r) ∧ ∀ r c, r < n → c < n → Q r c (R r c) := by
  have hc : ∀ r, ∃ l : List Bool, r < n → l.length = n ∧ X r = l.map Value.bool ∧ ∀ c, c < n → Q r c (l.getD c false) := fun r => by
    by_cases hr : r < n
    · obtain ⟨l, hl⟩ := h r hr
      exact ⟨l, fun _ => hl⟩
    · exact ⟨[], fun hh => absurd hh hr⟩
  obtain ⟨L, hL⟩ := Classical.skolem.1 hc
  refine ⟨fun r c => (L r).getD c false, fun r hr => ?_, fun r c hr hcn => (hL r hr).2.2 c hcn⟩
  obtain ⟨h1, h2, _⟩ := hL r hr
  refine h2.trans ?_
  unfold brow
  apply List.ext_getElem
  · simp [h1]
  · intro i h3 h4
    have hi : i < (L r).length := by simpa using h3
    simp [List.getD, List.getElem?_eq_getElem hi]
theorem near_of {v F V : Nat} {G : Nat → Nat → Bool} (hv : 1 ≤ v) (h : ∀ r c, r < 17 + 4 * v → c < 17 + 4 * v → gvB v r c = true → PatOk v F V r c (G r c)) (W : Nat → Nat → Prop) : Near v F V W G := by
  refine ⟨fun i hi hn => absurd ?_ hn, fun i hi hn => absurd ?_ hn, fun h7 i hi hn => absurd ?_ hn⟩
  · obtain ⟨a, b, c⟩ := p1_in v i hv hi
    exact (h _ _ a b c).1 i hi rfl rfl
  · obtain ⟨a, b, c⟩ := p2_in v i hv hi
    exact (h _ _ a b c).2.1 i hi rfl rfl
  · obtain ⟨a, b, c⟩ := pv_in v i h7 hi
    exact (h _ _ a b c).2.2 h7 i hi rfl rfl
/-- A module that is no part of a pattern may be anything. -/
theorem Near.free {v F V : Nat} {W : Nat → Nat → Prop} {G : Nat → Nat → Bool} (h : Near v F V W G) (hv : 1 ≤ v) (r c : Nat) (b : Bool) (hg : gvB v r c = false) : Near v F V W (set2 G r c b) := by
  refine h.other r c b (fun i hi e => ?_) (fun i hi e => ?_) (fun h7 i hi e => ?_)
  · have := (p1_in v i hv hi).2.2; rw [e.1, e.2, hg] at this; cases this
  · have := (p2_in v i hv hi).2.2; rw [e.1, e.2, hg] at this; cases this
  · have := (pv_in v i h7 hi).2.2; rw [e.1, e.2, hg] at this; cases this
theorem brow_set (R : Nat → Nat → Bool) (n r c : Nat) (b : Bool) (k : Nat) : put (brow R n) r ((brow R n r).set c (.bool b)) k = brow (set2 R r c b) n k := by
  unfold put brow
  by_cases hk : k = r
  · rw [if_pos hk, hk]
    apply List.ext_getElem
    · simp
    · intro i h1 h2
      rw [List.getElem_set]
      by_cases hi : c = i
      · simp [hi, set2]
      · simp [hi, set2, Ne.symm hi]
  · rw [if_neg hk]
    apply List.map_congr_left
    intro c' _
    unfold set2
    rw [if_neg (fun e => hk e.1)]
/-- The rows of a grid, one block each. -/
def Rows (w : World) (G n : Nat) (gs : Nat → Nat) (R : Nat → Nat → Bool) : Prop := RowsUp w G 41 4 n n gs (brow R n)
theorem Rows.set {w : World} {G n : Nat} {gs : Nat → Nat} {R : Nat → Nat → Bool} (h : Rows w G n gs R) (r c : Nat) (b : Bool) (hr : r < n) : Rows (w.setCell ⟨gs r, c, none⟩ (.bool b)) G n gs (set2 R r c b) :=
  (RowsUp.set h hr (x := c) (v := .bool b)).congr fun k _ => brow_set R n r c b k
theorem Rows.alloc {w : World} {G n : Nat} {gs : Nat → Nat} {R : Nat → Nat → Bool} (h : Rows w G n gs R) (o : Obj) : Rows (w.alloc o) G n gs R := RowsUp.alloc h o
theorem Rows.drewN {w : World} {G n : Nat} {gs : Nat → Nat} {R : Nat → Nat → Bool} (h : Rows w G n gs R) (k : Nat) : Rows (w.drewN k) G n gs R := RowsUp.drewN h k
theorem Rows.drew {w : World} {G n : Nat} {gs : Nat → Nat} {R : Nat → Nat → Bool} (h : Rows w G n gs R) : Rows w.drew G n gs R := RowsUp.drew h
/-- Row r and its module c: the cells. -/
theorem Rows.cells {w : World} {G n : Nat} {gs : Nat → Nat} {R : Nat → Nat → Bool} (h : Rows w G n gs R) (r c : Nat) (hr : r < n) (hc : c < n) :
    w.cell? ⟨G, r, none⟩ = some (.slice (some ⟨gs r, 0, none⟩) n n) ∧ w.cell? ⟨gs r, c, none⟩ = some (.bool (R r c)) ∧ w.frozen? ⟨gs r, c, none⟩ = false ∧ G < gs r ∧ gs r < w.heap.size := by
  obtain ⟨h1, h2⟩ := RowsUp.row h r hr
  refine ⟨?_, ?_, h1.frozen c, h2, h1.lt⟩
  · have := (RowsUp.top h).cell r (by simp; omega)
    rw [this]
    simp [brow_len]
  · rw [h1.cell c (by rw [brow_len]; exact hc)]
    simp [brow]
theorem Rows.below {w w' : World} {B G n : Nat} {gs : Nat → Nat} {R : Nat → Nat → Bool} (h : Rows w G n gs R) (hb : Below B w w') (hG : G < B) (hB : ∀ r, r < n → gs r < B) : Rows w' G n gs R := RowsUp.below h hb hG hB
theorem Rows.bounds {w : World} {G n : Nat} {gs : Nat → Nat} {R : Nat → Nat → Bool} (h : Rows w G n gs R) : G < w.heap.size ∧ ∀ r, r < n → gs r < w.heap.size :=
  ⟨(RowsUp.top h).lt, fun r hr => (RowsUp.row h r hr).1.lt⟩
/-- One more pair for the list of places. -/
def PairsOk (v n : Nat) (L : List (Nat × Nat)) : Prop := ∀ p ∈ L, p.1 < n ∧ p.2 < n ∧ gvB v p.1 p.2 = false
theorem PairsOk.app {v n : Nat} {L : List (Nat × Nat)} (h : PairsOk v n L) (r c : Nat) (hr : r < n) (hc : c < n) (hg : gvB v r c = false) : PairsOk v n (L ++ [(r, c)]) := by
  intro p hp
  rcases List.mem_append.1 hp with hp | hp
  · exact h p hp
  · obtain rfl : p = (r, c) := by simpa using hp
    exact ⟨hr, hc, hg⟩
/-- What the reader of the copies meets is near enough. -/
theorem reads_f1 {v F V a b c : Nat} {W : Nat → Nat → Prop} {R : Nat → Nat → Bool} (h : Near v F V W R) (hv : 1 ≤ v) (hF : F < 32768) (hW : ∀ i, W 0 i → i = a ∨ i = b ∨ i = c) : far (msb (g1 (allB R (17 + 4 * v))) 15 15) F ≤ 3 := by
  refine far_three _ F 15 a b c (by omega) (by omega) (fun i hi hn => hW i (h.f1 i hi ?_))
  unfold g1 allB at hn
  rwa [decide_eq_true (p1_in v i hv hi).2.1, Bool.true_and] at hn
theorem reads_f2 {v F V a b c : Nat} {W : Nat → Nat → Prop} {R : Nat → Nat → Bool} (h : Near v F V W R) (hv : 1 ≤ v) (hF : F < 32768) (hW : ∀ i, W 1 i → i = a ∨ i = b ∨ i = c) : far (msb (g2 (allB R (17 + 4 * v)) (17 + 4 * v)) 15 15) F ≤ 3 := by
  refine far_three _ F 15 a b c (by omega) (by omega) (fun i hi hn => hW i (h.f2 i hi ?_))
  unfold g2 allB at hn
  rwa [decide_eq_true (p2_in v i hv hi).2.1, Bool.true_and] at hn
theorem reads_v {v F V a b c : Nat} {W : Nat → Nat → Prop} {R : Nat → Nat → Bool} (h : Near v F V W R) (hv : 7 ≤ v) (hV : V < 262144) (hW : ∀ i, W 2 i → i = a ∨ i = b ∨ i = c) : far (msb (g3 (allB R (17 + 4 * v)) (17 + 4 * v)) 18 18) V ≤ 3 := by
  refine far_three _ V 18 a b c (by omega) (by omega) (fun i hi hn => hW i (h.vv hv i hi ?_))
  unfold g3 allB at hn
  rwa [decide_eq_true (pv_in v i hv hi).2.1, Bool.true_and] at hn
end Go.Proofs.Ytpffffhgmhpkiaa
