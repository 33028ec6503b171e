/- Rows of bits by two numbers: spec.BIRows. -/
import Derived.Test.YtkonepeejhgloaaMatR
namespace Go.Proofs.Ytkonepeejhgloaa
open Go.RowKit
set_option linter.unusedVariables false

/-- Bits that go on and on, in rows. -/
def wrapR (zs : List Bool) (L W : Nat) : Nat → Nat → Bool := fun y x => if L = 0 then false else zs.getD ((y * W + x) % L) false

set_option maxRecDepth 20000 in
set_option maxHeartbeats 4000000 in
theorem rowsBy (A : Option Addr) (L c W H : Nat) (zs : List Bool) (w : World) (hZ : Rd w A L (zs.map Value.bool)) (hL : L ≤ 2147483647) (hW1 : 1 ≤ W) (hW : W ≤ 120) (hH : H ≤ 120) :
    Calls Try.prog 23 #[.int .i64 W, .int .i64 H, .slice A L c] w (RowsBack H (brow (wrapR zs L W) W) w) := by
  obtain ⟨i1, hi1, hy0, hy1, hy2⟩ := info_of infoRow
  obtain ⟨i4, hi4, hb0, hb1, hb2⟩ := info_of infoBool
  have hmk := fun W => run_make (P := Try.prog) W 38 29 i1 (.slice none 0 0) Try.underlying38 hi1 hy0 .i64 .i64 (H : Int) (H : Int) (by omega) (by omega) (by rw [hy2]; omega) (by omega)
  simp only [hy1] at hmk
  have hmk2 := fun W' => run_make (P := Try.prog) W' 29 4 i4 (.bool false) Try.underlying29 hi4 hb0 .i64 .i64 (W : Int) (W : Int) (by omega) (by omega) (by rw [hb2]; omega) (by omega)
  simp only [hb1] at hmk2
  have HZ := hid hZ
  clear hZ
  go_enter Try.func23, Try.ntmps23
  go_wp2
  have HA := hid (Arr.made w 29 (.slice none 0 0) H)
  have HB := hid (show Below w.heap.size w (w.alloc (.cells (madeCells #[.slice none 0 0] H) 29)) from (Below.refl _ _).alloc (Nat.le_refl _) _)
  generalize w.alloc (.cells (madeCells #[.slice none 0 0] H) 29) = w1 at *
  clear hmk
  go_loopw [8] (fun iv wr => ∃ (k : Nat) (gs : Nat → Nat), k ≤ H ∧ iv = .int .i64 (k : Nat) ∧ RowsUp wr w.heap.size 29 4 H k gs (brow (wrapR zs L W) W) ∧ Below w.heap.size w wr) (fun iv _ => H - (intOf iv).toNat)
  case atStart => exact ⟨0, fun _ => 0, by omega, rfl, RowsUp.zero HA.out, HB.out⟩
  case round =>
    clear HA HB
    obtain ⟨k, gs, hk, rfl, hU, hB⟩ := hrel
    have HU := hid hU
    have HB := hid hB
    clear hU hB
    by_cases hlt : k < H
    · have hlt' : (k : Int) < (H : Int) := by omega
      have htop := HU.out.top.alloc (.cells (madeCells #[.bool false] W) 4)
      obtain ⟨v0, hv0⟩ := htop.has k (by simp; omega)
      have fz := htop.frozen k
      have hGl := HU.out.top.lt
      have HT1 := hid ((HU.out.top.set k (.slice (some ⟨wr.heap.size, 0, none⟩) W W)).alloc (.cells (madeCells #[.bool false] W) 4))
      clear htop
      go_wp2
      have HG1 := hid (show Arr ((wr.setCell ⟨w.heap.size, k, none⟩ (.slice (some ⟨wr.heap.size, 0, none⟩) W W)).alloc (.cells (madeCells #[.bool false] W) 4)) wr.heap.size 4 (List.replicate W (.bool false)) from by have := Arr.made (wr.setCell ⟨w.heap.size, k, none⟩ (.slice (some ⟨wr.heap.size, 0, none⟩) W W)) 4 (.bool false) W; rwa [World.size_setCell] at this)
      have HBB := hid (show Below w.heap.size w ((wr.setCell ⟨w.heap.size, k, none⟩ (.slice (some ⟨wr.heap.size, 0, none⟩) W W)).alloc (.cells (madeCells #[.bool false] W) 4)) from (HB.out.setCell (by simp) _).alloc (by rw [World.size_setCell]; exact HB.out.size) _)
      have HN := hid (fun W' x hx hb hA => HU.out.next (cs := madeCells #[.bool false] W) (m := W) (x := x) (w' := W') hlt hx hb hA)
      generalize hw2 : (wr.setCell ⟨w.heap.size, k, none⟩ (.slice (some ⟨wr.heap.size, 0, none⟩) W W)).alloc (.cells (madeCells #[.bool false] W) 4) = w2 at *
      generalize hgg : wr.heap.size = g2 at *
      have hs1 := HBB.out.size
      clear hv0 fz hw2
      go_loopw [9] (fun cv wr => ∃ c : Nat, c ≤ W ∧ (L = 0 → c = 0) ∧ cv = .int .i64 (c : Nat) ∧ Arr wr g2 4 ((brow (wrapR zs L W) W k).take c ++ List.replicate (W - c) (.bool false)) ∧ Below g2 w2 wr) (fun cv _ => W - (intOf cv).toNat)
      case atStart => exact ⟨0, by omega, fun _ => rfl, rfl, by simpa using HG1.out, Below.refl _ _⟩
      case round =>
        clear HG1
        obtain ⟨c, hcn, hL0, rfl, hA, hB2⟩ := hrel
        have HA := hid hA
        have HB2 := hid hB2
        have hBw := hid (HBB.out.trans (hB2.mono (by omega)))
        have htc := (HT1.out.below hB2 (by omega)).cell k (by simp; omega)
        simp only [List.getElem_set_self] at htc
        clear hA hB2
        by_cases hgo : c < W ∧ 0 < L
        · obtain ⟨h1, hL1⟩ := hgo
          have h1' : (c : Int) < (W : Int) := by omega
          have hL1' : (0 : Int) < (L : Int) := by omega
          have hp : k * W ≤ 14400 := Nat.mul_le_mul (show k ≤ 120 by omega) hW
          have e1 : IntKind.i64.wrap ((k : Int) * (W : Int)) = ((k * W : Nat) : Int) := by
            rw [show (k : Int) * (W : Int) = ((k * W : Nat) : Int) from by simp]
            exact IntWalk.i64_in _ ⟨by omega, by omega⟩
          have hml := Nat.mod_lt (k * W + c) hL1
          have e2 : ((k * W : Nat) : Int) + (c : Int) = ((k * W + c : Nat) : Int) := by omega
          have e3 : (((k * W : Nat) : Int) + (c : Int)) % (L : Int) = (((k * W + c) % L : Nat) : Int) := by rw [e2]; exact (Int.natCast_emod _ _).symm
          obtain ⟨bz, oz, rfl, hbz, hcz2⟩ := rd_bool (HZ.out.below hBw.out) ((k * W + c) % L) hml
          obtain ⟨v1, hv1⟩ := HA.out.has c (by rw [List.length_append, List.length_take, List.length_replicate, brow_len]; omega)
          have fz := HA.out.frozen c
          have HS2 := hid (fillSet (.bool false) (brow (wrapR zs L W) W k) W c (by rw [brow_len]; exact h1) h1)
          have HV := hid (show (brow (wrapR zs L W) W k).getD c (.bool false) = .bool (zs.getD ((k * W + c) % L) false) from by
            have : L ≠ 0 := by omega
            simp [brow, wrapR, List.getD, List.getElem?_range h1, this])
          rw [HV.out] at HS2
          clear HV e2 hL0
          generalize zs.getD ((k * W + c) % L) false = bv at *
          generalize (k * W + c) % L = ix at *
          generalize k * W = P at *
          have hil : (ix : Int) < (L : Int) := by omega
          go_wp2_with fail
          go_region
          all_goals (
            go_wp2_with fail
            go_roundw
            case rel =>
              refine ⟨c + 1, by omega, fun h => by omega, by go_num, ?_, Below.setCell HB2.out.drew (by simp) _⟩
              rw [← HS2.out]
              exact (HA.out.drew).set c _
            case measure => simp [intOf]; omega)
        · have hfull : Arr wr g2 4 (brow (wrapR zs L W) W k) := by
            have h2 := HA.out
            rcases Nat.eq_zero_or_pos L with h3 | h3
            · rw [hL0 h3, List.take_zero, List.nil_append, Nat.sub_zero] at h2
              have e : brow (wrapR zs L W) W k = List.replicate W (.bool false) := by
                apply List.ext_getElem
                · simp [brow]
                · intro i a b
                  simp [brow, wrapR, h3]
              rwa [e]
            · obtain rfl : c = W := by omega
              rwa [Nat.sub_self, List.replicate_zero, List.append_nil, List.take_of_length_le (by rw [brow_len]; exact Nat.le_refl _)] at h2
          have HE := hid (HN.out wr _ (brow_len _ W k) HB2.out hfull)
          have HE2 := hid (show RowsUp wr w.heap.size 29 4 H (k + 1) (put gs k g2) (brow (wrapR zs L W) W) from HE.out.congr (fun r hr => by
            unfold put
            by_cases hrk : r = k
            · rw [if_pos hrk, hrk]
            · rw [if_neg hrk]))
          clear HE HN hfull
          by_cases h1 : c < W
          · have h1' : (c : Int) < (W : Int) := by omega
            have hL1' : ¬ (0 : Int) < (L : Int) := by omega
            clear hgo
            go_wp2_with fail
            go_roundw
            case rel => exact ⟨k + 1, _, by omega, by go_num, HE2.out, hBw.out⟩
            case measure => simp [intOf]; omega
          · have h1' : ¬ (c : Int) < (W : Int) := by omega
            clear hgo
            go_wp2_with fail
            go_roundw
            case rel => exact ⟨k + 1, _, by omega, by go_num, HE2.out, hBw.out⟩
            case measure => simp [intOf]; omega
    · obtain rfl : k = H := by omega
      have hlt' : ¬ (k : Int) < (k : Int) := by omega
      go_wp2_with fail
      go_ret
      exact ⟨w.heap.size, rfl, Nat.le_refl _, HU.out.rd, HB.out⟩

end Go.Proofs.Ytkonepeejhgloaa
