/- Cells of a square: laws.qrCells. -/
import Derived.Test.YtjgckbccbambmaaSqW
namespace Go.Proofs.Ytjgckbccbambmaa
open Go.RowKit
set_option linter.unusedVariables false

def cellV (b : Bool) : Value := .int .i8 (if b then 1 else 0)
/-- Row r of the cells, of the modules. -/
def cellRow (B : Nat → Nat → Bool) (n r : Nat) : List Value := (List.range n).map fun c => cellV (B r c)
def boolRow (B : Nat → Nat → Bool) (n r : Nat) : List Value := (List.range n).map fun c => Value.bool (B r c)
theorem cellRow_len (B : Nat → Nat → Bool) (n r : Nat) : (cellRow B n r).length = n := by simp [cellRow]
theorem boolRow_len (B : Nat → Nat → Bool) (n r : Nat) : (boolRow B n r).length = n := by simp [boolRow]
theorem cellRow_at (B : Nat → Nat → Bool) (n r c : Nat) (hc : c < n) (d : Value) : (cellRow B n r).getD c d = cellV (B r c) := by
  simp [cellRow, List.getD, List.getElem?_range hc]
/-- The bit in row r, column c. -/
def bitAt (zs : List (List Bool)) (r c : Nat) : Bool := (zs.getD r []).getD c false
theorem sqRow_bool (zs : List (List Bool)) (n r : Nat) : (sqRow zs n r).map Value.bool = boolRow (bitAt zs) n r := by
  simp [sqRow, boolRow, bitAt]
theorem rd_boolRow {w : World} {Ra : Option Addr} {B : Nat → Nat → Bool} {n m r : Nat} (h : Rd w Ra m (boolRow B n r)) (hm : m = n) (c : Nat) (hc : c < n) : ∃ b o, Ra = some ⟨b, o, none⟩ ∧ b < w.heap.size ∧ w.cell? ⟨b, o + c, none⟩ = some (.bool (B r c)) := by
  subst hm
  obtain ⟨b, o, h1, h2, h3⟩ := h.2 (by omega)
  refine ⟨b, o, h1, h2, ?_⟩
  rw [h3 c (by rw [boolRow_len]; exact hc)]
  simp [boolRow]

theorem fill_keep {α : Type} (d : α) (X : List α) (n k : Nat) (hk : k < X.length) (hkn : k < n) (hd : X.getD k d = d) : X.take k ++ List.replicate (n - k) d = X.take (k + 1) ++ List.replicate (n - (k + 1)) d := by
  rw [← fill_set d X n k hk hkn, hd]
  have hl : (X.take k).length = k := by rw [List.length_take]; omega
  rw [List.set_append_right _ _ (by omega), hl, Nat.sub_self, show n - k = (n - (k + 1)) + 1 from by omega, List.replicate_succ, List.set_cons_zero]

/-- The cells and the modules. -/
def CellsOut (B : Nat → Nat → Bool) (n : Nat) (w : World) (e : Ending) (w' : World) : Prop :=
  ∃ G1 G2, e = .returned (.tuple #[.slice (some ⟨G1, 0, none⟩) n n, .slice (some ⟨G2, 0, none⟩) n n]) ∧ RdRows w' (some ⟨G1, 0, none⟩) n (cellRow B n) ∧ RdRows w' (some ⟨G2, 0, none⟩) n (boolRow B n) ∧ Below w.heap.size w w'

theorem info65 : (Try.prog.info? 65).map (fun i => (i.zero, i.size, i.bytes)) = some (some (.slice none 0 0), 1, 24) := by kernel_rfl
theorem info66 : (Try.prog.info? 66).map (fun i => (i.zero, i.size, i.bytes)) = some (some (.int .i8 0), 1, 1) := by kernel_rfl

set_option maxRecDepth 20000 in
set_option maxHeartbeats 4000000 in
theorem cells (A : Option Addr) (n0 c0 n : Nat) (zs : List (List Bool)) (w : World) (hX : RdRows w A n0 (fun k => (zs.getD k []).map Value.bool)) (hl : ∀ k, k < n0 → (zs.getD k []).length ≤ 2147483647) (hn0 : n0 ≤ 2147483647) (hnc : n0 ≤ c0) (hn : n = min n0 40) :
    Calls Try.prog 14 #[.slice A n0 c0] w (CellsOut (bitAt zs) n w) := by
  obtain ⟨i1, hi1, hy0, hy1, hy2⟩ := info_at info65
  obtain ⟨i4, hi4, hb0, hb1, hb2⟩ := info_at info66
  have hmin : (if (40 : Int) < (n0 : Int) then (40 : Int) else (n0 : Int)) = (n : Int) := by split <;> omega
  have hn40 : n ≤ 40 := by omega
  have hnn : n ≤ n0 := by omega
  have hnc' : (n : Int) ≤ (c0 : Int) := by omega
  have hmk := fun W => run_make (P := Try.prog) W 38 65 i1 (.slice none 0 0) Try.underlying38 hi1 hy0 .i64 .i64 (n : Int) (n : Int) (by omega) (by omega) (by rw [hy2]; omega) (by omega)
  simp only [hy1] at hmk
  have hmk2 := fun W => run_make (P := Try.prog) W 65 66 i4 (.int .i8 0) Try.underlying65 hi4 hb0 .i64 .i64 (n : Int) (n : Int) (by omega) (by omega) (by rw [hb2]; omega) (by omega)
  simp only [hb1] at hmk2
  have sq := fun cc => square A n cc n zs w (hX.take n hnn) (fun k hk => hl k (by omega)) (by omega) (by omega)
  clear hX hl hn
  go_enter Try.func14, Try.ntmps14
  go_wp2_with fail
  refine (sq _).mono ?_
  rintro e w1 ⟨G2, rfl, hG2, hS, hb1'⟩
  have HS := hid (hS.congr (Y := boolRow (bitAt zs) n) (fun k hk => sqRow_bool zs n k))
  have HB0 := hid hb1'
  clear sq hS hb1'
  go_wp2
  have HA := hid (Arr.made w1 65 (.slice none 0 0) n)
  have HB := hid (show Below w1.heap.size w1 (w1.alloc (.cells (madeCells #[.slice none 0 0] n) 65)) from (Below.refl _ _).alloc (Nat.le_refl _) _)
  generalize w1.alloc (.cells (madeCells #[.slice none 0 0] n) 65) = w2 at *
  clear hmk
  generalize bitAt zs = B at *
  go_loopw [20] (fun iv wr => ∃ (k : Nat) (gs : Nat → Nat), k ≤ n ∧ iv = .int .i64 (k : Nat) ∧ RowsUp wr w1.heap.size 65 66 n k gs (cellRow B n) ∧ Below w1.heap.size w1 wr) (fun iv _ => n - (intOf iv).toNat)
  case atStart => exact ⟨0, fun _ => 0, by omega, rfl, RowsUp.zero HA.out, HB.out⟩
  case round =>
    clear HA HB
    obtain ⟨k, gs, hk, rfl, hU, hB⟩ := hrel
    have HU := hid hU
    have HB := hid hB
    clear hU hB
    by_cases hlt : k < n
    · have hlt' : (k : Int) < (n : Int) := by omega
      have htop := HU.out.top.alloc (.cells (madeCells #[.int .i8 0] n) 66)
      obtain ⟨v0, hv0⟩ := htop.has k (by simp; omega)
      have fz := htop.frozen k
      have hGl := HU.out.top.lt
      have HT1 := hid ((HU.out.top.set k (.slice (some ⟨wr.heap.size, 0, none⟩) n n)).alloc (.cells (madeCells #[.int .i8 0] n) 66))
      have htc := HT1.out.cell k (by simp; omega)
      simp only [List.getElem_set_self] at htc
      clear htop
      go_wp2
      have HG1 := hid (show Arr ((wr.setCell ⟨w1.heap.size, k, none⟩ (.slice (some ⟨wr.heap.size, 0, none⟩) n n)).alloc (.cells (madeCells #[.int .i8 0] n) 66)) wr.heap.size 66 (List.replicate n (.int .i8 0)) from by have := Arr.made (wr.setCell ⟨w1.heap.size, k, none⟩ (.slice (some ⟨wr.heap.size, 0, none⟩) n n)) 66 (.int .i8 0) n; rwa [World.size_setCell] at this)
      have HBB := hid (show Below w1.heap.size w1 ((wr.setCell ⟨w1.heap.size, k, none⟩ (.slice (some ⟨wr.heap.size, 0, none⟩) n n)).alloc (.cells (madeCells #[.int .i8 0] n) 66)) from (HB.out.setCell (by simp) _).alloc (by rw [World.size_setCell]; exact HB.out.size) _)
      have HN := hid (fun W x hx hb hA => HU.out.next (cs := madeCells #[.int .i8 0] n) (m := n) (x := x) (w' := W) hlt hx hb hA)
      generalize hw2 : (wr.setCell ⟨w1.heap.size, k, none⟩ (.slice (some ⟨wr.heap.size, 0, none⟩) n n)).alloc (.cells (madeCells #[.int .i8 0] n) 66) = w3 at *
      generalize hgg : wr.heap.size = g at *
      have hs1 := HBB.out.size
      clear hv0 fz hw2 htc
      go_loopw [33] (fun cv wr => ∃ c : Nat, c ≤ n ∧ cv = .int .i64 (c : Nat) ∧ Arr wr g 66 ((cellRow B n k).take c ++ List.replicate (n - c) (.int .i8 0)) ∧ Below g w3 wr) (fun cv _ => n - (intOf cv).toNat)
      case atStart => exact ⟨0, by omega, rfl, by simpa using HG1.out, Below.refl _ _⟩
      case round =>
        clear HG1
        obtain ⟨c, hcn, rfl, hA, hB2⟩ := hrel
        have HA := hid hA
        have HB2 := hid hB2
        have hBw := hid (HBB.out.trans (hB2.mono (by omega)))
        have htc := (HT1.out.below hB2 (by omega)).cell k (by simp; omega)
        simp only [List.getElem_set_self] at htc
        clear hA hB2
        by_cases h1 : c < n
        · have h1' : (c : Int) < (n : Int) := by omega
          obtain ⟨b', o', Ra, c', he, hbw', hc', hr', hlc'⟩ := (HS.out.below hBw.out).at_ k hlt
          cases he
          rw [boolRow_len] at hc' hr'
          rw [Nat.zero_add] at hc'
          obtain ⟨bz, oz, rfl, hbz, hcz2⟩ := rd_boolRow hr' rfl c h1
          obtain ⟨v1, hv1⟩ := HA.out.has c (by rw [List.length_append, List.length_take, List.length_replicate, cellRow_len]; omega)
          have fz := HA.out.frozen c
          have HS2 := hid (fill_set (.int .i8 0) (cellRow B n k) n c (by rw [cellRow_len]; exact h1) h1)
          have HS3 := hid (fill_keep (.int .i8 0) (cellRow B n k) n c (by rw [cellRow_len]; exact h1) h1)
          have HV := hid (cellRow_at B n k c h1 (.int .i8 0))
          rw [HV.out] at HS2 HS3
          clear hr' HV hlc'
          cases hz : B k c with
          | true =>
            rw [hz] at hcz2 HS2
            clear HS3 hz
            go_wp2_with fail
            go_roundw
            case rel =>
              refine ⟨c + 1, by omega, by go_num, ?_, Below.setCell HB2.out (by simp) _⟩
              rw [← HS2.out]
              exact HA.out.set c _
            case measure => simp [intOf]; omega
          | false =>
            rw [hz] at hcz2 HS3
            clear HS2 hz
            go_wp2_with fail
            go_roundw
            case rel =>
              refine ⟨c + 1, by omega, by go_num, ?_, HB2.out⟩
              rw [← HS3.out rfl]
              exact HA.out
            case measure => simp [intOf]; omega
        · obtain rfl : c = n := by omega
          have h1' : ¬ (c : Int) < (c : Int) := by omega
          have hfull := HA.out
          rw [Nat.sub_self, List.replicate_zero, List.append_nil, List.take_of_length_le (by rw [cellRow_len]; exact Nat.le_refl _)] at hfull
          have HE := hid (HN.out wr _ (cellRow_len B c k) HB2.out hfull)
          have HE2 := hid (show RowsUp wr w1.heap.size 65 66 c (k + 1) (put gs k g) (cellRow B c) from HE.out.congr (fun r hr => by
            unfold put
            by_cases hrk : r = k
            · rw [if_pos hrk, hrk]
            · rw [if_neg hrk]))
          clear HE HN hfull
          go_wp2_with fail
          go_roundw
          case rel => exact ⟨k + 1, _, by omega, by go_num, HE2.out, hBw.out⟩
          case measure => simp [intOf]; omega
    · obtain rfl : k = n := by omega
      have hlt' : ¬ (k : Int) < (k : Int) := by omega
      go_wp2_with fail
      go_ret2
      exact ⟨w1.heap.size, G2, rfl, HU.out.rd, HS.out.below HB.out, HB0.out.trans (HB.out.mono HB0.out.size)⟩
end Go.Proofs.Ytjgckbccbambmaa
