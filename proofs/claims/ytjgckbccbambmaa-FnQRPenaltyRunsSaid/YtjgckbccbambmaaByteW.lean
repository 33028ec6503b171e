/- encoder.ByteMatrix: a new one, and a cell that is set. -/
import Derived.Test.YtjgckbccbambmaaCellW
namespace Go.Proofs.Ytjgckbccbambmaa
open Go.RowKit
set_option linter.unusedVariables false

/-- A square matrix of bytes. -/
structure BMat (w : World) (q G n : Nat) (gs : Nat → Nat) (X : Nat → List Value) : Prop where
  st : Arr w q 91 [.slice (some ⟨G, 0, none⟩) n n, .int .i64 n, .int .i64 n]
  rows : RowsUp w G 65 66 n n gs X
  ord : ∀ r, r < n → gs r < q
  gq : G < q

theorem BMat.below {w w' : World} {q G n : Nat} {gs : Nat → Nat} {X : Nat → List Value} (h : BMat w q G n gs X) {B : Nat} (hb : Below B w w') (hB : q < B) : BMat w' q G n gs X :=
  ⟨h.st.below hb hB, h.rows.below hb (by have := h.gq; omega) (fun r hr => by have := h.ord r hr; omega), h.ord, h.gq⟩

/-- A new matrix, all zeros. -/
def NewMat (n : Nat) (w : World) (e : Ending) (w' : World) : Prop :=
  ∃ q G gs, e = .returned (.pointer (some ⟨q, 0, none⟩)) ∧ w.heap.size ≤ G ∧ BMat w' q G n gs (fun _ => List.replicate n (.int .i8 0)) ∧ Below w.heap.size w w'

set_option maxRecDepth 20000 in
set_option maxHeartbeats 4000000 in
theorem newMat (n : Nat) (w : World) (hn : n ≤ 1000) : Calls Try.prog 35 #[.int .i64 n, .int .i64 n] w (NewMat n w) := by
  obtain ⟨i1, hi1, hy0, hy1, hy2⟩ := info_at info65
  obtain ⟨i4, hi4, hb0, hb1, hb2⟩ := info_at info66
  have hmk := fun W => run_make (P := Try.prog) W 38 65 i1 (.slice none 0 0) Try.underlying38 hi1 hy0 .i64 .i64 (n : Int) (n : Int) (by omega) (by omega) (by rw [hy2]; omega) (by omega)
  simp only [hy1] at hmk
  have hmk2 := fun W => run_make (P := Try.prog) W 65 66 i4 (.int .i8 0) Try.underlying65 hi4 hb0 .i64 .i64 (n : Int) (n : Int) (by omega) (by omega) (by rw [hb2]; omega) (by omega)
  simp only [hb1] at hmk2
  go_enter Try.func35, Try.ntmps35
  go_wp2
  have HA := hid (Arr.made w 65 (.slice none 0 0) n)
  have HB := hid (show Below w.heap.size w (w.alloc (.cells (madeCells #[.slice none 0 0] n) 65)) from (Below.refl _ _).alloc (Nat.le_refl _) _)
  generalize w.alloc (.cells (madeCells #[.slice none 0 0] n) 65) = w1 at *
  clear hmk
  go_loopw [6] (fun iv wr => ∃ (k : Nat) (gs : Nat → Nat), k ≤ n ∧ iv = .int .i64 (k : Nat) ∧ RowsUp wr w.heap.size 65 66 n k gs (fun _ => List.replicate n (.int .i8 0)) ∧ Below w.heap.size w wr) (fun iv _ => n - (intOf iv).toNat)
  case atStart => exact ⟨0, fun _ => 0, by omega, rfl, RowsUp.zero HA.out, HB.out⟩
  case round =>
    clear HA HB
    obtain ⟨k, gs, hk, rfl, hU, hB⟩ := hrel
    have HU := hid hU
    have HB := hid hB
    clear hU hB
    by_cases hlt : k < n
    · have hlt' : (k : Int) < (n : Int) := by omega
      have htop := HU.out.top.alloc (.cells (madeCells #[.int .i8 0] n) 66)
      obtain ⟨v0, hv0⟩ := htop.has k (by simp; omega)
      have fz := htop.frozen k
      have hGl := HU.out.top.lt
      clear htop
      go_wp2
      go_roundw
      case rel =>
        refine ⟨k + 1, put gs k wr.heap.size, by omega, by go_num, ?_, (HB.out.setCell (by simp) _).alloc (by rw [World.size_setCell]; exact HB.out.size) _⟩
        refine (HU.out.next (cs := madeCells #[.int .i8 0] n) (m := n) (x := List.replicate n (.int .i8 0)) hlt (by simp) (Below.refl _ _) (by have := Arr.made (wr.setCell ⟨w.heap.size, k, none⟩ (.slice (some ⟨wr.heap.size, 0, none⟩) n n)) 66 (.int .i8 0) n; rwa [World.size_setCell] at this)).congr (fun r hr => ?_)
        unfold put
        split <;> rfl
      case measure => simp [intOf]; omega
    · obtain rfl : k = n := by omega
      have hlt' : ¬ (k : Int) < (k : Int) := by omega
      go_wp2
      go_ret
      exact ⟨wr.heap.size, w.heap.size, gs, rfl, Nat.le_refl _, ⟨Arr.of_new wr 91 #[.slice (some ⟨w.heap.size, 0, none⟩) k k, .int .i64 k, .int .i64 k], HU.out.alloc _, fun r hr => (HU.out.row r hr).1.lt, HU.out.top.lt⟩, HB.out.alloc HB.out.size _⟩

set_option maxRecDepth 20000 in
set_option maxHeartbeats 4000000 in
theorem setMat (q G n x y : Nat) (gs : Nat → Nat) (X : Nat → List Value) (z : Int) (w : World) (h : BMat w q G n gs X) (hx : x < n) (hy : y < n) (hn : n ≤ 1000) (hl : (X y).length = n) :
    Calls Try.prog 36 #[.pointer (some ⟨q, 0, none⟩), .int .i64 x, .int .i64 y, .int .i8 z] w fun e w' => e = .returned (.tuple #[]) ∧ w' = w.setCell ⟨gs y, x, none⟩ (.int .i8 z) := by
  have hx' : (x : Int) < (n : Int) := by omega
  have hy' : (y : Int) < (n : Int) := by omega
  have c0 : w.cell? ⟨q, 0, none⟩ = some (.slice (some ⟨G, 0, none⟩) n n) := h.st.cell? 0
  have c1 : w.cell? ⟨G, y, none⟩ = some (.slice (some ⟨gs y, 0, none⟩) n n) := by
    rw [h.rows.top.cell? y]
    simp [hy, hl]
  obtain ⟨v0, hv0⟩ := (h.rows.row y hy).1.has x (by omega)
  have fz := (h.rows.row y hy).1.frozen x
  generalize gs y = g at *
  clear h
  go_enter Try.func36, Try.ntmps36
  go_wp2
  go_end0
  exact ⟨rfl, rfl⟩
end Go.Proofs.Ytjgckbccbambmaa
