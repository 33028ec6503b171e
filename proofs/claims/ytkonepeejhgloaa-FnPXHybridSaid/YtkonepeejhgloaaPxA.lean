/- laws.pxGrays: the walk. Printed by gen_px.py. -/
import Derived.Test.YtkonepeejhgloaaProg
import Derived.Test.YtkonepeejhgloaaMem
import Derived.Test.YtkonepeejhgloaaPxL
import Derived.KernelRfl
namespace Go.Proofs.Ytkonepeejhgloaa
open Go.RowKit
set_option linter.unusedVariables false
theorem info5 : (Try.prog.info? 5).map (fun i => (i.zero, i.size, i.bytes)) = some (some (.int .u8 0), 1, 1) := by kernel_rfl
def bytesOf (n : Nat) (px : Nat → Nat) : List Value := (List.range n).map fun k => Value.int .u8 (px k : Nat)
theorem bytesOf_length (n : Nat) (px : Nat → Nat) : (bytesOf n px).length = n := by simp [bytesOf]
theorem bytesOf_at (n : Nat) (px : Nat → Nat) (k : Nat) (hk : k < n) : (bytesOf n px)[k]? = some (.int .u8 (px k : Nat)) := by
  simp [bytesOf, List.getElem?_map, List.getElem?_range hk]
theorem bytesOf_congr {n : Nat} {p q : Nat → Nat} (h : ∀ k, k < n → p k = q k) : bytesOf n p = bytesOf n q :=
  List.map_congr_left fun k hk => by rw [h k (List.mem_range.1 hk)]
theorem bytes_one (n : Nat) (px : Nat → Nat) : ∀ u ∈ bytesOf n px, u.oneCell' = true := by
  intro u hu
  obtain ⟨b, _, rfl⟩ := List.mem_map.1 hu
  rfl
theorem fill_get (xs : List Value) (z : Value) (n k : Nat) (hn : xs.length = n) (hk : k < n) (v : Value) (hv : xs[k]? = some v) : (xs.take k ++ List.replicate (n - k) z).set k v = xs.take (k + 1) ++ List.replicate (n - (k + 1)) z := by
  have h1 : (xs.take k).length = k := by rw [List.length_take]; omega
  rw [List.set_append_right _ _ (by omega), h1, Nat.sub_self, show n - k = (n - (k + 1)) + 1 from by omega, List.replicate_succ, List.set_cons_zero, List.take_succ_eq_append_getElem (by omega), List.append_assoc]
  rw [List.getElem?_eq_getElem (by omega)] at hv
  injection hv with hv
  rw [hv]; rfl
/-- A slice of bytes that came in. -/
def RdB (w : World) (A : Option Addr) (n : Nat) (B : Nat → Nat) : Prop :=
  (∀ i, B i < 256) ∧ ∀ i, i < n → ∃ b o, A = some ⟨b, o, none⟩ ∧ b < w.heap.size ∧ w.cell? ⟨b, o + i, none⟩ = some (.int .u8 (B i : Nat))
theorem rdB_of {w : World} {A : Option Addr} {n cap : Nat} {zs : List Int} (h : SlIn w A n cap (zs.map (Value.int .u8))) (hw : ∀ z ∈ zs, (Lit.int .u8 z).wf = true) : RdB w A n (fun i => (zs.getD i 0).toNat) := by
  have hl : zs.length = n := by simpa using h.1
  have each : ∀ i, 0 ≤ zs.getD i 0 ∧ zs.getD i 0 < 256 := fun i => by
    by_cases hi : i < zs.length
    · rw [show zs.getD i 0 = zs[i] by simp [List.getD, List.getElem?_eq_getElem hi]]
      have := wf_u8 (hw _ (List.getElem_mem hi)); omega
    · rw [show zs.getD i 0 = 0 by simp [List.getD, List.getElem?_eq_none (Nat.le_of_not_lt hi)]]; omega
  refine ⟨fun i => by have := each i; show (zs.getD i 0).toNat < 256; omega, fun i hi => ?_⟩
  obtain ⟨b, o, hA, hb, hc⟩ := h.rd.2 (by omega)
  refine ⟨b, o, hA, hb, ?_⟩
  rw [hc i (by simp; omega)]
  have hi2 : i < zs.length := by omega
  have := each i
  simp only [List.getElem_map]
  rw [show (((zs.getD i 0).toNat : Nat) : Int) = zs[i] by rw [Int.toNat_of_nonneg this.1]; simp [List.getD, List.getElem?_eq_getElem hi2]]
/-- A picture of its own. -/
def PicOut (w : World) (e : Ending) (w' : World) : Prop :=
  ∃ (wd h g n : Nat) (px : Nat → Nat), e = .returned (.tuple #[.int .i64 wd, .int .i64 h, .slice (some ⟨g, 0, none⟩) n n]) ∧ n = wd * h ∧ 1 ≤ wd ∧ wd ≤ 60 ∧ 1 ≤ h ∧ h ≤ 60 ∧ (∀ k, px k < 256) ∧ Arr w' g 5 (bytesOf n px) ∧ Below w.heap.size w w'
set_option maxRecDepth 20000 in
set_option maxHeartbeats 8000000 in
theorem pxGrays (A : Option Addr) (n cap : Nat) (B : Nat → Nat) (z : Int) (hz0 : 0 ≤ z) (hz1 : z ≤ 255) (w : World) (hR : RdB w A n B) (hn : n ≤ 2147483647) :
    Calls Try.prog 6 #[.slice A n cap, .int .u8 z] w (PicOut w) := by
  obtain ⟨i0, hi, hz0', hz1', hz2⟩ := info_parts info5
  obtain ⟨W, hW⟩ : ∃ W : Nat, (W : Int) = 1 + z % 60 := ⟨(1 + z % 60).toNat, by omega⟩
  have hW1 : 1 ≤ W := by omega
  have hW2 : W ≤ 60 := by omega
  have eW : 1 + z % 60 = (W : Int) := hW.symm
  obtain ⟨q, hq⟩ : ∃ q, q = n / W := ⟨_, rfl⟩
  have eq : (n : Int) / (W : Int) = (q : Int) := by rw [hq]; exact (Int.natCast_ediv _ _).symm
  have hq2 : q ≤ 2147483647 := by rw [hq]; exact Nat.le_trans (Nat.div_le_self _ _) hn
  have HR := hid hR.2
  have HB := hid hR.1
  have B0 := hid (Below.refl w.heap.size w)
  clear hW hq hR
  have cs : q < 1 ∨ (1 ≤ q ∧ q ≤ 60) ∨ 60 < q := by omega
  rcases cs with hc | ⟨hc1, hc2⟩ | hc
  · skip
    obtain rfl : q = 0 := by omega
    have eq0 : (n : Int) / (W : Int) = 0 := by simpa using eq
    clear eq
    obtain ⟨N, hN⟩ : ∃ N, N = W * 1 := ⟨_, rfl⟩
    have hNb : N ≤ 60 * 60 := by rw [hN]; exact Nat.mul_le_mul hW2 (by omega)
    have hN1 : 1 * 1 ≤ N := by rw [hN]; exact Nat.mul_le_mul hW1 (by omega)
    have hmul : (W : Int) = (N : Int) := by rw [hN, Nat.mul_one]
    have HN := hid hN
    clear hN
    obtain rfl : W = N := by omega
    clear hmul
    have hmk := fun W1 => run_make (P := Try.prog) W1 22 5 i0 (.int .u8 0) Try.underlying22 hi hz0' .i64 .i64 W W (by omega) (by omega) (by rw [hz2]; omega) (by omega)
    simp only [hz1'] at hmk
    have A1 := hid (Arr.made w 5 (.int .u8 0) W)
    have B1 := hid (B0.out.alloc (Nat.le_refl _) (.cells (madeCells #[.int .u8 0] W) 5))
    clear hi hz0' hz1' hz2
    go_enter Try.func6, Try.ntmps6
    go_wp2_with fail
    generalize w.alloc (.cells (madeCells #[.int .u8 0] W) 5) = w1 at *
    clear hmk
    by_cases hn0 : n = 0
    · subst hn0
      go_loopw [10] (fun iv wr => iv = .int .i64 0 ∧ w1 = wr) (fun _ _ => 0)
      case atStart => exact ⟨rfl, rfl⟩
      case round =>
        obtain ⟨rfl, rfl⟩ := hrel
        go_wp2_with fail
        go_ret3
        refine ⟨W, 1, w.heap.size, W, fun _ => 0, rfl, HN.out, hW1, hW2, by omega, by omega, fun _ => by show (0 : Nat) < 256; omega, ?_, B1.out⟩
        have e0 : bytesOf W (fun _ => 0) = List.replicate W (.int .u8 0) := by simp [bytesOf, List.map_const']
        rw [e0]; exact A1.out
    · have hnp : (0 : Int) < (n : Int) := by omega
      have HE : Hid (List.replicate W (Value.int .u8 0) = (bytesOf W fun k => B (k % n)).take 0 ++ List.replicate (W - 0) (.int .u8 0)) := hid (by simp)
      go_loopw [10] (fun iv wr => ∃ k : Nat, k ≤ W ∧ iv = .int .i64 k ∧ Hid (Arr wr w.heap.size 5 ((bytesOf W fun k => B (k % n)).take k ++ List.replicate (W - k) (.int .u8 0))) ∧ Hid (Below w.heap.size w wr)) (fun iv _ => W - (intOf iv).toNat)
      case atStart => exact ⟨0, by omega, rfl, hid (by rw [← HE.out]; exact A1.out), B1⟩
      case round =>
        obtain ⟨k, hk, rfl, hA, hBl⟩ := hrel
        by_cases hlt : k < W
        · have hlt2 : (k : Int) < (W : Int) := by omega
          obtain ⟨j, hj⟩ : ∃ j, j = k % n := ⟨_, rfl⟩
          have ej : (k : Int) % (n : Int) = (j : Int) := by rw [hj]; exact (Int.natCast_emod _ _).symm
          have hjn : j < n := by rw [hj]; exact Nat.mod_lt _ (by omega)
          have hjn2 : (j : Int) < (n : Int) := by omega
          obtain ⟨rb, ro, rfl, hrb, hcell⟩ := HR.out j hjn
          have hcell2 := (hBl.out.cell (p := ⟨rb, ro + j, none⟩) hrb).trans hcell
          have hx := HB.out j
          have hset := hid (fill_get (bytesOf W fun k => B (k % n)) (.int .u8 0) W k (bytesOf_length _ _) hlt _ (bytesOf_at W _ k hlt))
          try simp only at hset
          rw [← hj] at hset
          obtain ⟨v0, hv0⟩ := hA.out.has k (by rw [List.length_append, List.length_take, List.length_replicate, bytesOf_length]; omega)
          have fz := hA.out.frozen k
          have HA2 := hid (hA.out.set k (.int .u8 (B j : Nat)))
          rw [hset.out] at HA2
          have HB2 := hid (hBl.out.setCell (p := ⟨w.heap.size, k, none⟩) (by simp) (.int .u8 (B j : Nat)))
          clear hj hcell hset
          generalize B j = x at *
          go_wp2_with fail
          go_roundw
          case rel => exact ⟨k + 1, by omega, by go_num, HA2, HB2⟩
          case measure => simp [intOf]; omega
        · obtain rfl : k = W := by omega
          go_wp2_with fail
          go_ret3
          refine ⟨k, 1, w.heap.size, k, fun i => B (i % n), rfl, HN.out, hW1, hW2, by omega, by omega, fun i => HB.out _, ?_, hBl.out⟩
          have := hA.out
          rw [Nat.sub_self, List.replicate_zero, List.append_nil, List.take_of_length_le (by rw [bytesOf_length]; omega)] at this
          exact this
  · skip
    have hmax : (if (1 : Int) < (q : Int) then (q : Int) else 1) = (q : Int) := by split <;> omega
    have hmin : (if (q : Int) < 60 then (q : Int) else 60) = (q : Int) := by split <;> omega
    obtain ⟨N, hN⟩ : ∃ N, N = W * q := ⟨_, rfl⟩
    have hNb : N ≤ 60 * 60 := by rw [hN]; exact Nat.mul_le_mul hW2 (by omega)
    have hN1 : 1 * 1 ≤ N := by rw [hN]; exact Nat.mul_le_mul hW1 (by omega)
    have hmul : (W : Int) * (q : Int) = (N : Int) := by rw [hN]; exact (Int.natCast_mul _ _).symm
    have HN := hid hN
    clear hN
    have hmk := fun W1 => run_make (P := Try.prog) W1 22 5 i0 (.int .u8 0) Try.underlying22 hi hz0' .i64 .i64 N N (by omega) (by omega) (by rw [hz2]; omega) (by omega)
    simp only [hz1'] at hmk
    have A1 := hid (Arr.made w 5 (.int .u8 0) N)
    have B1 := hid (B0.out.alloc (Nat.le_refl _) (.cells (madeCells #[.int .u8 0] N) 5))
    clear hi hz0' hz1' hz2
    go_enter Try.func6, Try.ntmps6
    go_wp2_with fail
    generalize w.alloc (.cells (madeCells #[.int .u8 0] N) 5) = w1 at *
    clear hmk
    by_cases hn0 : n = 0
    · subst hn0
      go_loopw [10] (fun iv wr => iv = .int .i64 0 ∧ w1 = wr) (fun _ _ => 0)
      case atStart => exact ⟨rfl, rfl⟩
      case round =>
        obtain ⟨rfl, rfl⟩ := hrel
        go_wp2_with fail
        go_ret3
        refine ⟨W, q, w.heap.size, N, fun _ => 0, rfl, HN.out, hW1, hW2, by omega, by omega, fun _ => by show (0 : Nat) < 256; omega, ?_, B1.out⟩
        have e0 : bytesOf N (fun _ => 0) = List.replicate N (.int .u8 0) := by simp [bytesOf, List.map_const']
        rw [e0]; exact A1.out
    · have hnp : (0 : Int) < (n : Int) := by omega
      have HE : Hid (List.replicate N (Value.int .u8 0) = (bytesOf N fun k => B (k % n)).take 0 ++ List.replicate (N - 0) (.int .u8 0)) := hid (by simp)
      go_loopw [10] (fun iv wr => ∃ k : Nat, k ≤ N ∧ iv = .int .i64 k ∧ Hid (Arr wr w.heap.size 5 ((bytesOf N fun k => B (k % n)).take k ++ List.replicate (N - k) (.int .u8 0))) ∧ Hid (Below w.heap.size w wr)) (fun iv _ => N - (intOf iv).toNat)
      case atStart => exact ⟨0, by omega, rfl, hid (by rw [← HE.out]; exact A1.out), B1⟩
      case round =>
        obtain ⟨k, hk, rfl, hA, hBl⟩ := hrel
        by_cases hlt : k < N
        · have hlt2 : (k : Int) < (N : Int) := by omega
          obtain ⟨j, hj⟩ : ∃ j, j = k % n := ⟨_, rfl⟩
          have ej : (k : Int) % (n : Int) = (j : Int) := by rw [hj]; exact (Int.natCast_emod _ _).symm
          have hjn : j < n := by rw [hj]; exact Nat.mod_lt _ (by omega)
          have hjn2 : (j : Int) < (n : Int) := by omega
          obtain ⟨rb, ro, rfl, hrb, hcell⟩ := HR.out j hjn
          have hcell2 := (hBl.out.cell (p := ⟨rb, ro + j, none⟩) hrb).trans hcell
          have hx := HB.out j
          have hset := hid (fill_get (bytesOf N fun k => B (k % n)) (.int .u8 0) N k (bytesOf_length _ _) hlt _ (bytesOf_at N _ k hlt))
          try simp only at hset
          rw [← hj] at hset
          obtain ⟨v0, hv0⟩ := hA.out.has k (by rw [List.length_append, List.length_take, List.length_replicate, bytesOf_length]; omega)
          have fz := hA.out.frozen k
          have HA2 := hid (hA.out.set k (.int .u8 (B j : Nat)))
          rw [hset.out] at HA2
          have HB2 := hid (hBl.out.setCell (p := ⟨w.heap.size, k, none⟩) (by simp) (.int .u8 (B j : Nat)))
          clear hj hcell hset
          generalize B j = x at *
          go_wp2_with fail
          go_roundw
          case rel => exact ⟨k + 1, by omega, by go_num, HA2, HB2⟩
          case measure => simp [intOf]; omega
        · obtain rfl : k = N := by omega
          go_wp2_with fail
          go_ret3
          refine ⟨W, q, w.heap.size, k, fun i => B (i % n), rfl, HN.out, hW1, hW2, by omega, by omega, fun i => HB.out _, ?_, hBl.out⟩
          have := hA.out
          rw [Nat.sub_self, List.replicate_zero, List.append_nil, List.take_of_length_le (by rw [bytesOf_length]; omega)] at this
          exact this
  · skip
    have hmax : (if (1 : Int) < (q : Int) then (q : Int) else 1) = (q : Int) := by split <;> omega
    have hmin : (if (q : Int) < 60 then (q : Int) else 60) = 60 := by split <;> omega
    obtain ⟨N, hN⟩ : ∃ N, N = W * 60 := ⟨_, rfl⟩
    have hNb : N ≤ 60 * 60 := by rw [hN]; exact Nat.mul_le_mul hW2 (by omega)
    have hN1 : 1 * 1 ≤ N := by rw [hN]; exact Nat.mul_le_mul hW1 (by omega)
    have hmul : (W : Int) * 60 = (N : Int) := by rw [hN]; omega
    have HN := hid hN
    clear hN
    have hmk := fun W1 => run_make (P := Try.prog) W1 22 5 i0 (.int .u8 0) Try.underlying22 hi hz0' .i64 .i64 N N (by omega) (by omega) (by rw [hz2]; omega) (by omega)
    simp only [hz1'] at hmk
    have A1 := hid (Arr.made w 5 (.int .u8 0) N)
    have B1 := hid (B0.out.alloc (Nat.le_refl _) (.cells (madeCells #[.int .u8 0] N) 5))
    clear hi hz0' hz1' hz2
    go_enter Try.func6, Try.ntmps6
    go_wp2_with fail
    generalize w.alloc (.cells (madeCells #[.int .u8 0] N) 5) = w1 at *
    clear hmk
    by_cases hn0 : n = 0
    · subst hn0
      go_loopw [10] (fun iv wr => iv = .int .i64 0 ∧ w1 = wr) (fun _ _ => 0)
      case atStart => exact ⟨rfl, rfl⟩
      case round =>
        obtain ⟨rfl, rfl⟩ := hrel
        go_wp2_with fail
        go_ret3
        refine ⟨W, 60, w.heap.size, N, fun _ => 0, rfl, HN.out, hW1, hW2, by omega, by omega, fun _ => by show (0 : Nat) < 256; omega, ?_, B1.out⟩
        have e0 : bytesOf N (fun _ => 0) = List.replicate N (.int .u8 0) := by simp [bytesOf, List.map_const']
        rw [e0]; exact A1.out
    · have hnp : (0 : Int) < (n : Int) := by omega
      have HE : Hid (List.replicate N (Value.int .u8 0) = (bytesOf N fun k => B (k % n)).take 0 ++ List.replicate (N - 0) (.int .u8 0)) := hid (by simp)
      go_loopw [10] (fun iv wr => ∃ k : Nat, k ≤ N ∧ iv = .int .i64 k ∧ Hid (Arr wr w.heap.size 5 ((bytesOf N fun k => B (k % n)).take k ++ List.replicate (N - k) (.int .u8 0))) ∧ Hid (Below w.heap.size w wr)) (fun iv _ => N - (intOf iv).toNat)
      case atStart => exact ⟨0, by omega, rfl, hid (by rw [← HE.out]; exact A1.out), B1⟩
      case round =>
        obtain ⟨k, hk, rfl, hA, hBl⟩ := hrel
        by_cases hlt : k < N
        · have hlt2 : (k : Int) < (N : Int) := by omega
          obtain ⟨j, hj⟩ : ∃ j, j = k % n := ⟨_, rfl⟩
          have ej : (k : Int) % (n : Int) = (j : Int) := by rw [hj]; exact (Int.natCast_emod _ _).symm
          have hjn : j < n := by rw [hj]; exact Nat.mod_lt _ (by omega)
          have hjn2 : (j : Int) < (n : Int) := by omega
          obtain ⟨rb, ro, rfl, hrb, hcell⟩ := HR.out j hjn
          have hcell2 := (hBl.out.cell (p := ⟨rb, ro + j, none⟩) hrb).trans hcell
          have hx := HB.out j
          have hset := hid (fill_get (bytesOf N fun k => B (k % n)) (.int .u8 0) N k (bytesOf_length _ _) hlt _ (bytesOf_at N _ k hlt))
          try simp only at hset
          rw [← hj] at hset
          obtain ⟨v0, hv0⟩ := hA.out.has k (by rw [List.length_append, List.length_take, List.length_replicate, bytesOf_length]; omega)
          have fz := hA.out.frozen k
          have HA2 := hid (hA.out.set k (.int .u8 (B j : Nat)))
          rw [hset.out] at HA2
          have HB2 := hid (hBl.out.setCell (p := ⟨w.heap.size, k, none⟩) (by simp) (.int .u8 (B j : Nat)))
          clear hj hcell hset
          generalize B j = x at *
          go_wp2_with fail
          go_roundw
          case rel => exact ⟨k + 1, by omega, by go_num, HA2, HB2⟩
          case measure => simp [intOf]; omega
        · obtain rfl : k = N := by omega
          go_wp2_with fail
          go_ret3
          refine ⟨W, 60, w.heap.size, k, fun i => B (i % n), rfl, HN.out, hW1, hW2, by omega, by omega, fun i => HB.out _, ?_, hBl.out⟩
          have := hA.out
          rw [Nat.sub_self, List.replicate_zero, List.append_nil, List.take_of_length_le (by rw [bytesOf_length]; omega)] at this
          exact this
end Go.Proofs.Ytkonepeejhgloaa
