/- FnPXGrays: the walk of the law. -/
import Derived.Test.YtmaghlckgfihcaaGrayO
import Derived.Deep.DrawnRows
import Derived.IntWalk
namespace Go.Proofs.Ytmaghlckgfihcaa
open Go.RowKit
set_option linter.unusedVariables false

theorem pxSame (A B : Option Addr) (n c d : Nat) (px : List Nat) (w : World) (hn : 1 ≤ n) (hA : Rd w A n (grays px)) (hB : Rd w B n (grays px)) :
    Calls Try.prog 20 #[.slice A n c, .slice B n d] w fun e w' => e = .returned (.bool true) ∧ w = w' := by
  obtain ⟨b1, o1, rfl, _, h1⟩ := hA.2 (by omega)
  obtain ⟨b2, o2, rfl, _, h2⟩ := hB.2 (by omega)
  have hl := hA.1
  have hl2 : (px.map fun x => ((gray x : Nat) : Int)).length = n := by simpa [grays] using hl
  have k1 : ∀ i, i < n → w.cell? ⟨b1, o1 + i, none⟩ = some (.int .u8 ((px.map fun x => ((gray x : Nat) : Int)).getD i 0)) := fun i hi => by
    rw [h1 i (by rw [hl]; exact hi)]
    have : i < px.length := by simpa using (by rw [List.length_map] at hl2; omega : i < px.length)
    simp [grays, List.getD, List.getElem?_eq_getElem this]
  have k2 : ∀ i, i < n → w.cell? ⟨b2, o2 + i, none⟩ = some (.int .u8 ((px.map fun x => ((gray x : Nat) : Int)).getD i 0)) := fun i hi => by
    rw [h2 i (by rw [hl]; exact hi)]
    have : i < px.length := by simpa using (by rw [List.length_map] at hl2; omega : i < px.length)
    simp [grays, List.getD, List.getElem?_eq_getElem this]
  have c1 := run_convert_bytes_arg (P := Try.prog) w 41 5 Try.underlying41 Try.underlying5 b1 o1 n c _ hl2 k1 9 Try.underlying9
  have c2 := run_convert_bytes_arg (P := Try.prog) w 41 5 Try.underlying41 Try.underlying5 b2 o2 n d _ hl2 k2 9 Try.underlying9
  generalize strOfNums _ = s at *
  clear h1 h2 k1 k2 hA hB hl hl2
  go_enter Try.func20, Try.ntmps20
  go_wp2
  go_ret
  exact ⟨by simp, rfl⟩

theorem u32_and (a b : Nat) (ha : a < 4294967296) (hb : b < 4294967296) : bits .and .u32 (a : Int) (b : Int) = ((a &&& b : Nat) : Int) := by
  have hx : a &&& b < 2 ^ 32 := Nat.and_lt_two_pow _ (by omega)
  show IntKind.u32.wrap ((BitVec.ofInt 32 (a : Int) &&& BitVec.ofInt 32 (b : Int)).toNat : Int) = _
  rw [BitVec.toNat_and, ofInt_u32 a (by omega), ofInt_u32 b (by omega), IntWalk.u32_in _ ⟨by omega, by omega⟩]

attribute [local go_sem ↓] Go.wp_at_zero Go.wp_at_succ
set_option maxRecDepth 100000 in
set_option maxHeartbeats 4000000 in
theorem grays_core (w : World) (A : Option Addr) (len cap : Nat) (zs : List Int) (hS : SlIn w A len cap (zs.map (Value.int .u32))) (hz : ∀ j, 0 ≤ zs.getD j 0 ∧ zs.getD j 0 ≤ 4294967295) (a : Nat) (ha : a ≤ 255) :
    Calls Try.prog 6 #[.slice A len cap, .int .u8 a] w fun e w' => e = .returned (.bool true) ∧ Below w.heap.size w w' := by
  have hR := hS.rd
  obtain ⟨_, _, hcm, _⟩ := hS
  unfold maxLen at hcm
  by_cases hbig : (2147483647 : Int) < len
  · go_enter Try.func6, Try.ntmps6
    go_wp2
    go_ret
    exact ⟨rfl, Below.refl _ _⟩
  have hl : zs.length = len := by have := hR.1; simpa using this
  obtain ⟨wd, hwd⟩ : ∃ wd : Nat, (1 : Int) + (a : Int) % 60 = (wd : Int) := ⟨1 + a % 60, by omega⟩
  have hwd1 : 1 ≤ wd := by omega
  have hwd2 : wd ≤ 60 := by omega
  obtain ⟨q, hq⟩ : ∃ q : Nat, q = len / wd := ⟨_, rfl⟩
  have hqi : (len : Int) / (wd : Int) = (q : Int) := by rw [hq]; exact (Int.natCast_ediv _ _).symm
  obtain ⟨h, hh⟩ : ∃ h : Nat, h = min 60 q := ⟨_, rfl⟩
  have hh2 : h ≤ 60 := by omega
  obtain ⟨n, hn⟩ : ∃ n : Nat, n = wd * h := ⟨_, rfl⟩
  have HN := hid hn
  have hnl : n ≤ len := by
    have h1 : wd * h ≤ wd * q := Nat.mul_le_mul_left _ (by omega)
    have h2 : wd * q ≤ len := by rw [hq]; exact Nat.mul_div_le _ _
    omega
  have hn2 : n ≤ 3600 := by rw [hn]; exact Nat.mul_le_mul hwd2 hh2
  have hmul : (wd : Int) * (h : Int) = (n : Int) := by rw [hn]; exact (Int.natCast_mul _ _).symm
  by_cases hq60 : q < 60
  · obtain rfl : h = q := by omega
    have hq6 : (h : Int) < 60 := by omega
    by_cases h0 : h = 0
    · subst h0
      clear hn hq hh hmul HN
      go_enter Try.func6, Try.ntmps6
      go_wp2
      go_ret
      exact ⟨rfl, Below.refl _ _⟩
    have h0' : ((h : Int) == 0) = false := by rw [beq_eq_false_iff_ne]; omega
    have hn1 : 1 ≤ n := by rw [hn]; exact Nat.mul_pos hwd1 (by omega)
    obtain ⟨i0, hi, hz0, hz1, hz2⟩ := info_parts info3
    obtain ⟨i5, hi5, hz50, hz51, hz52⟩ := info_parts info5
    have hmk := fun W => run_make (P := Try.prog) W 26 3 i0 (.int .i64 0) Try.underlying26 hi hz0 .i64 .i64 n n (by omega) (by omega) (by rw [hz2]; omega) (by omega)
    have hmk5 := fun W => run_make (P := Try.prog) W 41 5 i5 (.int .u8 0) Try.underlying41 hi5 hz50 .i64 .i64 n n (by omega) (by omega) (by rw [hz52]; omega) (by omega)
    simp only [hz1] at hmk
    simp only [hz51] at hmk5
    obtain ⟨zn, hzn⟩ : ∃ zn : Nat → Nat, zn = fun k => (zs.getD k 0).toNat := ⟨_, rfl⟩
    obtain ⟨px, hpx⟩ : ∃ px : List Nat, px = (List.range n).map fun k => zn k % 16777216 := ⟨_, rfl⟩
    have HPL := hid (show px.length = n by rw [hpx]; simp)
    have HPX := hid (show ∀ k, k < n → px.getD k 0 = zn k % 16777216 from fun k hk => by rw [hpx]; simp [List.getD, hk])
    have HPP := hid (show ∀ k, k < n → px.getD k 0 < 16777216 from fun k hk => by rw [HPX.out k hk]; omega)
    have HPB := hid (show ∀ k, k < len → zn k < 4294967296 from fun k _ => by have := hz k; rw [hzn]; simp only; omega)
    have HCELL := hid (show ∀ k, k < len → ∃ b o, A = some ⟨b, o, none⟩ ∧ b < w.heap.size ∧ w.cell? ⟨b, o + k, none⟩ = some (.int .u32 (zn k : Nat)) from fun k hk => by
      obtain ⟨b, o, hA, hb, hc⟩ := hR.2 (by omega)
      refine ⟨b, o, hA, hb, ?_⟩
      rw [hc k (by simp; omega)]
      have h1 := hz k
      have h2 : ((zn k : Nat) : Int) = zs.getD k 0 := by rw [hzn]; simp only; omega
      rw [h2]
      simp [List.getD, List.getElem?_eq_getElem (show k < zs.length by omega)])
    have HIL := hid (show (ints px).length = n by rw [ints_length, HPL.out])
    have HGL := hid (show (grays px).length = n by simp [grays, HPL.out])
    have HE3 := hid (show (ints px).take 0 ++ List.replicate (n - 0) (Value.int .i64 0) = List.replicate n (.int .i64 0) by simp)
    have HE5 := hid (show (grays px).take 0 ++ List.replicate (n - 0) (Value.int .u8 0) = List.replicate n (.int .u8 0) by simp)
    clear hzn hpx hn hq hh hl hz hR hi hz0 hz1 hz2 hi5 hz50 hz51 hz52
    go_enter Try.func6, Try.ntmps6
    go_wp2_with fail
    go_region
    · have A1 : Arr (((w.alloc (.cells (madeCells #[.int .i64 0] n) 3)).alloc (.cells (madeCells #[.int .u8 0] n) 5)).drew) (w.heap.size) 3 (List.replicate n (.int .i64 0)) := ((Arr.made w 3 (.int .i64 0) n).alloc (.cells (madeCells #[.int .u8 0] n) 5)).drew
      have A2 : Arr (((w.alloc (.cells (madeCells #[.int .i64 0] n) 3)).alloc (.cells (madeCells #[.int .u8 0] n) 5)).drew) (w.heap.size + 1) 5 (List.replicate n (.int .u8 0)) := by have := (Arr.made (w.alloc (.cells (madeCells #[.int .i64 0] n) 3)) 5 (.int .u8 0) n).drew; simpa using this
      have B1 : Below w.heap.size w (((w.alloc (.cells (madeCells #[.int .i64 0] n) 3)).alloc (.cells (madeCells #[.int .u8 0] n) 5)).drew) := (((Below.refl _ w).alloc (Nat.le_refl _) (.cells (madeCells #[.int .i64 0] n) 3)).alloc (by simp) (.cells (madeCells #[.int .u8 0] n) 5)).drew
      have HFill := hid fill_get
      clear hmk hmk5
      go_wp2_with fail
      go_loopw [9] (fun i wr => ∃ k : Nat, k ≤ n ∧ i = .int .i64 k ∧ Arr wr (w.heap.size) 3 ((ints px).take k ++ List.replicate (n - k) (.int .i64 0)) ∧ Arr wr (w.heap.size + 1) 5 ((grays px).take k ++ List.replicate (n - k) (.int .u8 0)) ∧ Below w.heap.size w wr) (fun i _ => n - (intOf i).toNat)
      case atStart => exact ⟨0, by omega, rfl, by rw [HE3.out]; exact A1, by rw [HE5.out]; exact A2, B1⟩
      case round =>
        clear A1 A2 B1
        obtain ⟨k, hk, rfl, hA, hG, hB⟩ := hrel
        by_cases hlt : k < n
        · have hlt' : (k : Int) < (n : Int) := by omega
          have hltl : (k : Int) < (len : Int) := by omega
          obtain ⟨bp, op, rfl, hbp, kp⟩ := HCELL.out k (by omega)
          have kp2 := (hB.cell (p := ⟨bp, op + k, none⟩) hbp).trans kp
          obtain ⟨v0, hv0⟩ := hA.has k (by rw [List.length_append, List.length_take, List.length_replicate, HIL.out]; omega)
          have fz := hA.frozen k
          obtain ⟨v1, hv1⟩ := hG.has k (by rw [List.length_append, List.length_take, List.length_replicate, HGL.out]; omega)
          have fz1 := hG.frozen k
          have HV1 : (ints px)[k]? = some (.int .i64 (px.getD k 0 : Nat)) := by simp [ints, List.getD, List.getElem?_eq_getElem (show k < px.length by rw [HPL.out]; exact hlt)]
          have HV2 : (grays px)[k]? = some (.int .u8 (gray (px.getD k 0) : Nat)) := by simp [grays, List.getD, List.getElem?_eq_getElem (show k < px.length by rw [HPL.out]; exact hlt)]
          have HS1 := hid (fill_get (ints px) (.int .i64 0) n k HIL.out hlt _ HV1)
          have HS2 := hid (fill_get (grays px) (.int .u8 0) n k HGL.out hlt _ HV2)
          have hpb := HPB.out k (by omega)
          have hpx := hid (HPX.out k hlt)
          generalize zn k = Z0 at *
          have hP24 : Z0 % 16777216 < 16777216 := by omega
          have a0 : bits .and .u32 (Z0 : Int) 16777215 = ((Z0 % 16777216 : Nat) : Int) := by
            have := u32_and Z0 16777215 (by omega) (by omega)
            rw [show (16777215 : Nat) = 2 ^ 24 - 1 from rfl, Nat.and_two_pow_sub_one_eq_mod] at this
            exact this
          rw [hpx.out] at HS1 HS2
          generalize Z0 % 16777216 = P at *
          have hgr := gray_le hP24
          have HG0 := hid (show gray P = (P / 65536 + 2 * (P / 256 % 256) + P % 256) / 4 from rfl)
          generalize gray P = G at *
          have a2 : bits .and .i64 ((P : Int) / 256) 255 = ((P / 256 % 256 : Nat) : Int) := by
            have := i64_and (P / 256) 255 (by omega) (by omega)
            rw [and_255] at this
            rw [← this]; congr 1
          have a3 : bits .and .i64 (P : Int) 255 = ((P % 256 : Nat) : Int) := by
            have := i64_and P 255 (by omega) (by omega)
            rw [and_255] at this
            rw [← this]; congr 1
          have hGi : ((P : Int) / 65536 + 2 * ((P / 256 % 256 : Nat) : Int) + ((P % 256 : Nat) : Int)) / 4 = (G : Int) := by rw [HG0.out]; omega
          have bd2 : P / 256 % 256 ≤ 255 := by omega
          have bd3 : P % 256 ≤ 255 := by omega
          generalize P / 256 % 256 = Y at *
          generalize P % 256 = Q at *
          have w1 : IntKind.i64.wrap (2 * (Y : Int)) = 2 * (Y : Int) := IntWalk.i64_in _ ⟨by omega, by omega⟩
          have w2 : IntKind.i64.wrap ((P : Int) / 65536 + 2 * (Y : Int)) = (P : Int) / 65536 + 2 * (Y : Int) := IntWalk.i64_in _ ⟨by omega, by omega⟩
          have w3 : IntKind.i64.wrap ((P : Int) / 65536 + 2 * (Y : Int) + (Q : Int)) = (P : Int) / 65536 + 2 * (Y : Int) + (Q : Int) := IntWalk.i64_in _ ⟨by omega, by omega⟩
          have w4 : IntKind.u8.wrap (G : Int) = (G : Int) := IntWalk.u8_in _ ⟨by omega, by omega⟩
          have HA := hid hA
          have HGG := hid hG
          have HB := hid hB
          clear hA hG hB HV1 HV2 HG0 kp hbp hpx
          go_wp2
          go_region
          all_goals (
            go_wp2
            go_roundw
            case rel => exact ⟨k + 1, by omega, by go_num, by rw [← HS1.out]; exact ((HA.out.set k _).drew).far (by simp) _, by rw [← HS2.out]; exact ((HGG.out.far (by simp) _).drew).set k _, ((HB.out.setCell (by simp) _).drew).setCell (by simp) _⟩
            case measure => simp [intOf]; omega)
        · obtain rfl : k = n := by omega
          have hlt' : ¬ (k : Int) < (k : Int) := by omega
          have e1 : (ints px).take k ++ List.replicate (k - k) (.int .i64 0) = ints px := by rw [Nat.sub_self, List.take_of_length_le (by rw [HIL.out]; omega)]; simp
          have e2 : (grays px).take k ++ List.replicate (k - k) (.int .u8 0) = grays px := by rw [Nat.sub_self, List.take_of_length_le (by rw [HGL.out]; omega)]; simp
          rw [e1] at hA
          rw [e2] at hG
          have R1 := Rd.of_arr hA
          rw [HIL.out] at R1
          have R2 := Rd.of_arr hG
          rw [HGL.out] at R2
          have go := grayOf wd h k (some ⟨w.heap.size, 0, none⟩) k px wr HN.out hwd1 (by omega) hwd2 hh2 hn1 hn2 R1 HPP.out
          have HR2 := hid R2
          have HB := hid hB
          clear hA hG hB e1 e2 R1 R2
          go_wp2_with fail
          refine go.mono ?_
          rintro e w5 ⟨A5, c5, rfl, hc5, hR5, hb5⟩
          have HB5 := hid (HB.out.trans (hb5.mono HB.out.size))
          have ps := pxSame A5 (some ⟨w.heap.size + 1, 0, none⟩) k c5 k px w5 hn1 hR5 (HR2.out.below hb5)
          clear hR5 hb5 go
          go_wp2_with fail
          refine ps.mono ?_
          rintro e w6 ⟨rfl, rfl⟩
          clear ps
          go_wp2_with fail
          go_ret
          exact ⟨rfl, HB5.out⟩
    · have A1 : Arr (((w.alloc (.cells (madeCells #[.int .u8 0] n) 5)).alloc (.cells (madeCells #[.int .i64 0] n) 3)).drew) (w.heap.size + 1) 3 (List.replicate n (.int .i64 0)) := by have := (Arr.made (w.alloc (.cells (madeCells #[.int .u8 0] n) 5)) 3 (.int .i64 0) n).drew; simpa using this
      have A2 : Arr (((w.alloc (.cells (madeCells #[.int .u8 0] n) 5)).alloc (.cells (madeCells #[.int .i64 0] n) 3)).drew) (w.heap.size) 5 (List.replicate n (.int .u8 0)) := ((Arr.made w 5 (.int .u8 0) n).alloc (.cells (madeCells #[.int .i64 0] n) 3)).drew
      have B1 : Below w.heap.size w (((w.alloc (.cells (madeCells #[.int .u8 0] n) 5)).alloc (.cells (madeCells #[.int .i64 0] n) 3)).drew) := (((Below.refl _ w).alloc (Nat.le_refl _) (.cells (madeCells #[.int .u8 0] n) 5)).alloc (by simp) (.cells (madeCells #[.int .i64 0] n) 3)).drew
      have HFill := hid fill_get
      clear hmk hmk5
      go_wp2_with fail
      go_loopw [9] (fun i wr => ∃ k : Nat, k ≤ n ∧ i = .int .i64 k ∧ Arr wr (w.heap.size + 1) 3 ((ints px).take k ++ List.replicate (n - k) (.int .i64 0)) ∧ Arr wr (w.heap.size) 5 ((grays px).take k ++ List.replicate (n - k) (.int .u8 0)) ∧ Below w.heap.size w wr) (fun i _ => n - (intOf i).toNat)
      case atStart => exact ⟨0, by omega, rfl, by rw [HE3.out]; exact A1, by rw [HE5.out]; exact A2, B1⟩
      case round =>
        clear A1 A2 B1
        obtain ⟨k, hk, rfl, hA, hG, hB⟩ := hrel
        by_cases hlt : k < n
        · have hlt' : (k : Int) < (n : Int) := by omega
          have hltl : (k : Int) < (len : Int) := by omega
          obtain ⟨bp, op, rfl, hbp, kp⟩ := HCELL.out k (by omega)
          have kp2 := (hB.cell (p := ⟨bp, op + k, none⟩) hbp).trans kp
          obtain ⟨v0, hv0⟩ := hA.has k (by rw [List.length_append, List.length_take, List.length_replicate, HIL.out]; omega)
          have fz := hA.frozen k
          obtain ⟨v1, hv1⟩ := hG.has k (by rw [List.length_append, List.length_take, List.length_replicate, HGL.out]; omega)
          have fz1 := hG.frozen k
          have HV1 : (ints px)[k]? = some (.int .i64 (px.getD k 0 : Nat)) := by simp [ints, List.getD, List.getElem?_eq_getElem (show k < px.length by rw [HPL.out]; exact hlt)]
          have HV2 : (grays px)[k]? = some (.int .u8 (gray (px.getD k 0) : Nat)) := by simp [grays, List.getD, List.getElem?_eq_getElem (show k < px.length by rw [HPL.out]; exact hlt)]
          have HS1 := hid (fill_get (ints px) (.int .i64 0) n k HIL.out hlt _ HV1)
          have HS2 := hid (fill_get (grays px) (.int .u8 0) n k HGL.out hlt _ HV2)
          have hpb := HPB.out k (by omega)
          have hpx := hid (HPX.out k hlt)
          generalize zn k = Z0 at *
          have hP24 : Z0 % 16777216 < 16777216 := by omega
          have a0 : bits .and .u32 (Z0 : Int) 16777215 = ((Z0 % 16777216 : Nat) : Int) := by
            have := u32_and Z0 16777215 (by omega) (by omega)
            rw [show (16777215 : Nat) = 2 ^ 24 - 1 from rfl, Nat.and_two_pow_sub_one_eq_mod] at this
            exact this
          rw [hpx.out] at HS1 HS2
          generalize Z0 % 16777216 = P at *
          have hgr := gray_le hP24
          have HG0 := hid (show gray P = (P / 65536 + 2 * (P / 256 % 256) + P % 256) / 4 from rfl)
          generalize gray P = G at *
          have a2 : bits .and .i64 ((P : Int) / 256) 255 = ((P / 256 % 256 : Nat) : Int) := by
            have := i64_and (P / 256) 255 (by omega) (by omega)
            rw [and_255] at this
            rw [← this]; congr 1
          have a3 : bits .and .i64 (P : Int) 255 = ((P % 256 : Nat) : Int) := by
            have := i64_and P 255 (by omega) (by omega)
            rw [and_255] at this
            rw [← this]; congr 1
          have hGi : ((P : Int) / 65536 + 2 * ((P / 256 % 256 : Nat) : Int) + ((P % 256 : Nat) : Int)) / 4 = (G : Int) := by rw [HG0.out]; omega
          have bd2 : P / 256 % 256 ≤ 255 := by omega
          have bd3 : P % 256 ≤ 255 := by omega
          generalize P / 256 % 256 = Y at *
          generalize P % 256 = Q at *
          have w1 : IntKind.i64.wrap (2 * (Y : Int)) = 2 * (Y : Int) := IntWalk.i64_in _ ⟨by omega, by omega⟩
          have w2 : IntKind.i64.wrap ((P : Int) / 65536 + 2 * (Y : Int)) = (P : Int) / 65536 + 2 * (Y : Int) := IntWalk.i64_in _ ⟨by omega, by omega⟩
          have w3 : IntKind.i64.wrap ((P : Int) / 65536 + 2 * (Y : Int) + (Q : Int)) = (P : Int) / 65536 + 2 * (Y : Int) + (Q : Int) := IntWalk.i64_in _ ⟨by omega, by omega⟩
          have w4 : IntKind.u8.wrap (G : Int) = (G : Int) := IntWalk.u8_in _ ⟨by omega, by omega⟩
          have HA := hid hA
          have HGG := hid hG
          have HB := hid hB
          clear hA hG hB HV1 HV2 HG0 kp hbp hpx
          go_wp2
          go_region
          all_goals (
            go_wp2
            go_roundw
            case rel => exact ⟨k + 1, by omega, by go_num, by rw [← HS1.out]; exact ((HA.out.set k _).drew).far (by simp) _, by rw [← HS2.out]; exact ((HGG.out.far (by simp) _).drew).set k _, ((HB.out.setCell (by simp) _).drew).setCell (by simp) _⟩
            case measure => simp [intOf]; omega)
        · obtain rfl : k = n := by omega
          have hlt' : ¬ (k : Int) < (k : Int) := by omega
          have e1 : (ints px).take k ++ List.replicate (k - k) (.int .i64 0) = ints px := by rw [Nat.sub_self, List.take_of_length_le (by rw [HIL.out]; omega)]; simp
          have e2 : (grays px).take k ++ List.replicate (k - k) (.int .u8 0) = grays px := by rw [Nat.sub_self, List.take_of_length_le (by rw [HGL.out]; omega)]; simp
          rw [e1] at hA
          rw [e2] at hG
          have R1 := Rd.of_arr hA
          rw [HIL.out] at R1
          have R2 := Rd.of_arr hG
          rw [HGL.out] at R2
          have go := grayOf wd h k (some ⟨w.heap.size + 1, 0, none⟩) k px wr HN.out hwd1 (by omega) hwd2 hh2 hn1 hn2 R1 HPP.out
          have HR2 := hid R2
          have HB := hid hB
          clear hA hG hB e1 e2 R1 R2
          go_wp2_with fail
          refine go.mono ?_
          rintro e w5 ⟨A5, c5, rfl, hc5, hR5, hb5⟩
          have HB5 := hid (HB.out.trans (hb5.mono HB.out.size))
          have ps := pxSame A5 (some ⟨w.heap.size, 0, none⟩) k c5 k px w5 hn1 hR5 (HR2.out.below hb5)
          clear hR5 hb5 go
          go_wp2_with fail
          refine ps.mono ?_
          rintro e w6 ⟨rfl, rfl⟩
          clear ps
          go_wp2_with fail
          go_ret
          exact ⟨rfl, HB5.out⟩
  · obtain rfl : h = 60 := by omega
    have hq6 : ¬ (q : Int) < 60 := by omega
    have hqle : q ≤ 2147483647 := by have := Nat.div_le_self len wd; omega
    have hmul2 : (wd : Int) * 60 = (n : Int) := hmul
    clear hmul
    have hn1 : 1 ≤ n := by rw [hn]; exact Nat.mul_pos hwd1 (by omega)
    obtain ⟨i0, hi, hz0, hz1, hz2⟩ := info_parts info3
    obtain ⟨i5, hi5, hz50, hz51, hz52⟩ := info_parts info5
    have hmk := fun W => run_make (P := Try.prog) W 26 3 i0 (.int .i64 0) Try.underlying26 hi hz0 .i64 .i64 n n (by omega) (by omega) (by rw [hz2]; omega) (by omega)
    have hmk5 := fun W => run_make (P := Try.prog) W 41 5 i5 (.int .u8 0) Try.underlying41 hi5 hz50 .i64 .i64 n n (by omega) (by omega) (by rw [hz52]; omega) (by omega)
    simp only [hz1] at hmk
    simp only [hz51] at hmk5
    obtain ⟨zn, hzn⟩ : ∃ zn : Nat → Nat, zn = fun k => (zs.getD k 0).toNat := ⟨_, rfl⟩
    obtain ⟨px, hpx⟩ : ∃ px : List Nat, px = (List.range n).map fun k => zn k % 16777216 := ⟨_, rfl⟩
    have HPL := hid (show px.length = n by rw [hpx]; simp)
    have HPX := hid (show ∀ k, k < n → px.getD k 0 = zn k % 16777216 from fun k hk => by rw [hpx]; simp [List.getD, hk])
    have HPP := hid (show ∀ k, k < n → px.getD k 0 < 16777216 from fun k hk => by rw [HPX.out k hk]; omega)
    have HPB := hid (show ∀ k, k < len → zn k < 4294967296 from fun k _ => by have := hz k; rw [hzn]; simp only; omega)
    have HCELL := hid (show ∀ k, k < len → ∃ b o, A = some ⟨b, o, none⟩ ∧ b < w.heap.size ∧ w.cell? ⟨b, o + k, none⟩ = some (.int .u32 (zn k : Nat)) from fun k hk => by
      obtain ⟨b, o, hA, hb, hc⟩ := hR.2 (by omega)
      refine ⟨b, o, hA, hb, ?_⟩
      rw [hc k (by simp; omega)]
      have h1 := hz k
      have h2 : ((zn k : Nat) : Int) = zs.getD k 0 := by rw [hzn]; simp only; omega
      rw [h2]
      simp [List.getD, List.getElem?_eq_getElem (show k < zs.length by omega)])
    have HIL := hid (show (ints px).length = n by rw [ints_length, HPL.out])
    have HGL := hid (show (grays px).length = n by simp [grays, HPL.out])
    have HE3 := hid (show (ints px).take 0 ++ List.replicate (n - 0) (Value.int .i64 0) = List.replicate n (.int .i64 0) by simp)
    have HE5 := hid (show (grays px).take 0 ++ List.replicate (n - 0) (Value.int .u8 0) = List.replicate n (.int .u8 0) by simp)
    clear hzn hpx hn hq hh hl hz hR hi hz0 hz1 hz2 hi5 hz50 hz51 hz52
    go_enter Try.func6, Try.ntmps6
    go_wp2_with fail
    go_region
    · have A1 : Arr (((w.alloc (.cells (madeCells #[.int .i64 0] n) 3)).alloc (.cells (madeCells #[.int .u8 0] n) 5)).drew) (w.heap.size) 3 (List.replicate n (.int .i64 0)) := ((Arr.made w 3 (.int .i64 0) n).alloc (.cells (madeCells #[.int .u8 0] n) 5)).drew
      have A2 : Arr (((w.alloc (.cells (madeCells #[.int .i64 0] n) 3)).alloc (.cells (madeCells #[.int .u8 0] n) 5)).drew) (w.heap.size + 1) 5 (List.replicate n (.int .u8 0)) := by have := (Arr.made (w.alloc (.cells (madeCells #[.int .i64 0] n) 3)) 5 (.int .u8 0) n).drew; simpa using this
      have B1 : Below w.heap.size w (((w.alloc (.cells (madeCells #[.int .i64 0] n) 3)).alloc (.cells (madeCells #[.int .u8 0] n) 5)).drew) := (((Below.refl _ w).alloc (Nat.le_refl _) (.cells (madeCells #[.int .i64 0] n) 3)).alloc (by simp) (.cells (madeCells #[.int .u8 0] n) 5)).drew
      have HFill := hid fill_get
      clear hmk hmk5
      go_wp2_with fail
      go_loopw [9] (fun i wr => ∃ k : Nat, k ≤ n ∧ i = .int .i64 k ∧ Arr wr (w.heap.size) 3 ((ints px).take k ++ List.replicate (n - k) (.int .i64 0)) ∧ Arr wr (w.heap.size + 1) 5 ((grays px).take k ++ List.replicate (n - k) (.int .u8 0)) ∧ Below w.heap.size w wr) (fun i _ => n - (intOf i).toNat)
      case atStart => exact ⟨0, by omega, rfl, by rw [HE3.out]; exact A1, by rw [HE5.out]; exact A2, B1⟩
      case round =>
        clear A1 A2 B1
        obtain ⟨k, hk, rfl, hA, hG, hB⟩ := hrel
        by_cases hlt : k < n
        · have hlt' : (k : Int) < (n : Int) := by omega
          have hltl : (k : Int) < (len : Int) := by omega
          obtain ⟨bp, op, rfl, hbp, kp⟩ := HCELL.out k (by omega)
          have kp2 := (hB.cell (p := ⟨bp, op + k, none⟩) hbp).trans kp
          obtain ⟨v0, hv0⟩ := hA.has k (by rw [List.length_append, List.length_take, List.length_replicate, HIL.out]; omega)
          have fz := hA.frozen k
          obtain ⟨v1, hv1⟩ := hG.has k (by rw [List.length_append, List.length_take, List.length_replicate, HGL.out]; omega)
          have fz1 := hG.frozen k
          have HV1 : (ints px)[k]? = some (.int .i64 (px.getD k 0 : Nat)) := by simp [ints, List.getD, List.getElem?_eq_getElem (show k < px.length by rw [HPL.out]; exact hlt)]
          have HV2 : (grays px)[k]? = some (.int .u8 (gray (px.getD k 0) : Nat)) := by simp [grays, List.getD, List.getElem?_eq_getElem (show k < px.length by rw [HPL.out]; exact hlt)]
          have HS1 := hid (fill_get (ints px) (.int .i64 0) n k HIL.out hlt _ HV1)
          have HS2 := hid (fill_get (grays px) (.int .u8 0) n k HGL.out hlt _ HV2)
          have hpb := HPB.out k (by omega)
          have hpx := hid (HPX.out k hlt)
          generalize zn k = Z0 at *
          have hP24 : Z0 % 16777216 < 16777216 := by omega
          have a0 : bits .and .u32 (Z0 : Int) 16777215 = ((Z0 % 16777216 : Nat) : Int) := by
            have := u32_and Z0 16777215 (by omega) (by omega)
            rw [show (16777215 : Nat) = 2 ^ 24 - 1 from rfl, Nat.and_two_pow_sub_one_eq_mod] at this
            exact this
          rw [hpx.out] at HS1 HS2
          generalize Z0 % 16777216 = P at *
          have hgr := gray_le hP24
          have HG0 := hid (show gray P = (P / 65536 + 2 * (P / 256 % 256) + P % 256) / 4 from rfl)
          generalize gray P = G at *
          have a2 : bits .and .i64 ((P : Int) / 256) 255 = ((P / 256 % 256 : Nat) : Int) := by
            have := i64_and (P / 256) 255 (by omega) (by omega)
            rw [and_255] at this
            rw [← this]; congr 1
          have a3 : bits .and .i64 (P : Int) 255 = ((P % 256 : Nat) : Int) := by
            have := i64_and P 255 (by omega) (by omega)
            rw [and_255] at this
            rw [← this]; congr 1
          have hGi : ((P : Int) / 65536 + 2 * ((P / 256 % 256 : Nat) : Int) + ((P % 256 : Nat) : Int)) / 4 = (G : Int) := by rw [HG0.out]; omega
          have bd2 : P / 256 % 256 ≤ 255 := by omega
          have bd3 : P % 256 ≤ 255 := by omega
          generalize P / 256 % 256 = Y at *
          generalize P % 256 = Q at *
          have w1 : IntKind.i64.wrap (2 * (Y : Int)) = 2 * (Y : Int) := IntWalk.i64_in _ ⟨by omega, by omega⟩
          have w2 : IntKind.i64.wrap ((P : Int) / 65536 + 2 * (Y : Int)) = (P : Int) / 65536 + 2 * (Y : Int) := IntWalk.i64_in _ ⟨by omega, by omega⟩
          have w3 : IntKind.i64.wrap ((P : Int) / 65536 + 2 * (Y : Int) + (Q : Int)) = (P : Int) / 65536 + 2 * (Y : Int) + (Q : Int) := IntWalk.i64_in _ ⟨by omega, by omega⟩
          have w4 : IntKind.u8.wrap (G : Int) = (G : Int) := IntWalk.u8_in _ ⟨by omega, by omega⟩
          have HA := hid hA
          have HGG := hid hG
          have HB := hid hB
          clear hA hG hB HV1 HV2 HG0 kp hbp hpx
          go_wp2
          go_region
          all_goals (
            go_wp2
            go_roundw
            case rel => exact ⟨k + 1, by omega, by go_num, by rw [← HS1.out]; exact ((HA.out.set k _).drew).far (by simp) _, by rw [← HS2.out]; exact ((HGG.out.far (by simp) _).drew).set k _, ((HB.out.setCell (by simp) _).drew).setCell (by simp) _⟩
            case measure => simp [intOf]; omega)
        · obtain rfl : k = n := by omega
          have hlt' : ¬ (k : Int) < (k : Int) := by omega
          have e1 : (ints px).take k ++ List.replicate (k - k) (.int .i64 0) = ints px := by rw [Nat.sub_self, List.take_of_length_le (by rw [HIL.out]; omega)]; simp
          have e2 : (grays px).take k ++ List.replicate (k - k) (.int .u8 0) = grays px := by rw [Nat.sub_self, List.take_of_length_le (by rw [HGL.out]; omega)]; simp
          rw [e1] at hA
          rw [e2] at hG
          have R1 := Rd.of_arr hA
          rw [HIL.out] at R1
          have R2 := Rd.of_arr hG
          rw [HGL.out] at R2
          have go := grayOf wd 60 k (some ⟨w.heap.size, 0, none⟩) k px wr HN.out hwd1 (by omega) hwd2 (by omega) hn1 hn2 R1 HPP.out
          have HR2 := hid R2
          have HB := hid hB
          clear hA hG hB e1 e2 R1 R2
          go_wp2_with fail
          refine go.mono ?_
          rintro e w5 ⟨A5, c5, rfl, hc5, hR5, hb5⟩
          have HB5 := hid (HB.out.trans (hb5.mono HB.out.size))
          have ps := pxSame A5 (some ⟨w.heap.size + 1, 0, none⟩) k c5 k px w5 hn1 hR5 (HR2.out.below hb5)
          clear hR5 hb5 go
          go_wp2_with fail
          refine ps.mono ?_
          rintro e w6 ⟨rfl, rfl⟩
          clear ps
          go_wp2_with fail
          go_ret
          exact ⟨rfl, HB5.out⟩
    · have A1 : Arr (((w.alloc (.cells (madeCells #[.int .u8 0] n) 5)).alloc (.cells (madeCells #[.int .i64 0] n) 3)).drew) (w.heap.size + 1) 3 (List.replicate n (.int .i64 0)) := by have := (Arr.made (w.alloc (.cells (madeCells #[.int .u8 0] n) 5)) 3 (.int .i64 0) n).drew; simpa using this
      have A2 : Arr (((w.alloc (.cells (madeCells #[.int .u8 0] n) 5)).alloc (.cells (madeCells #[.int .i64 0] n) 3)).drew) (w.heap.size) 5 (List.replicate n (.int .u8 0)) := ((Arr.made w 5 (.int .u8 0) n).alloc (.cells (madeCells #[.int .i64 0] n) 3)).drew
      have B1 : Below w.heap.size w (((w.alloc (.cells (madeCells #[.int .u8 0] n) 5)).alloc (.cells (madeCells #[.int .i64 0] n) 3)).drew) := (((Below.refl _ w).alloc (Nat.le_refl _) (.cells (madeCells #[.int .u8 0] n) 5)).alloc (by simp) (.cells (madeCells #[.int .i64 0] n) 3)).drew
      have HFill := hid fill_get
      clear hmk hmk5
      go_wp2_with fail
      go_loopw [9] (fun i wr => ∃ k : Nat, k ≤ n ∧ i = .int .i64 k ∧ Arr wr (w.heap.size + 1) 3 ((ints px).take k ++ List.replicate (n - k) (.int .i64 0)) ∧ Arr wr (w.heap.size) 5 ((grays px).take k ++ List.replicate (n - k) (.int .u8 0)) ∧ Below w.heap.size w wr) (fun i _ => n - (intOf i).toNat)
      case atStart => exact ⟨0, by omega, rfl, by rw [HE3.out]; exact A1, by rw [HE5.out]; exact A2, B1⟩
      case round =>
        clear A1 A2 B1
        obtain ⟨k, hk, rfl, hA, hG, hB⟩ := hrel
        by_cases hlt : k < n
        · have hlt' : (k : Int) < (n : Int) := by omega
          have hltl : (k : Int) < (len : Int) := by omega
          obtain ⟨bp, op, rfl, hbp, kp⟩ := HCELL.out k (by omega)
          have kp2 := (hB.cell (p := ⟨bp, op + k, none⟩) hbp).trans kp
          obtain ⟨v0, hv0⟩ := hA.has k (by rw [List.length_append, List.length_take, List.length_replicate, HIL.out]; omega)
          have fz := hA.frozen k
          obtain ⟨v1, hv1⟩ := hG.has k (by rw [List.length_append, List.length_take, List.length_replicate, HGL.out]; omega)
          have fz1 := hG.frozen k
          have HV1 : (ints px)[k]? = some (.int .i64 (px.getD k 0 : Nat)) := by simp [ints, List.getD, List.getElem?_eq_getElem (show k < px.length by rw [HPL.out]; exact hlt)]
          have HV2 : (grays px)[k]? = some (.int .u8 (gray (px.getD k 0) : Nat)) := by simp [grays, List.getD, List.getElem?_eq_getElem (show k < px.length by rw [HPL.out]; exact hlt)]
          have HS1 := hid (fill_get (ints px) (.int .i64 0) n k HIL.out hlt _ HV1)
          have HS2 := hid (fill_get (grays px) (.int .u8 0) n k HGL.out hlt _ HV2)
          have hpb := HPB.out k (by omega)
          have hpx := hid (HPX.out k hlt)
          generalize zn k = Z0 at *
          have hP24 : Z0 % 16777216 < 16777216 := by omega
          have a0 : bits .and .u32 (Z0 : Int) 16777215 = ((Z0 % 16777216 : Nat) : Int) := by
            have := u32_and Z0 16777215 (by omega) (by omega)
            rw [show (16777215 : Nat) = 2 ^ 24 - 1 from rfl, Nat.and_two_pow_sub_one_eq_mod] at this
            exact this
          rw [hpx.out] at HS1 HS2
          generalize Z0 % 16777216 = P at *
          have hgr := gray_le hP24
          have HG0 := hid (show gray P = (P / 65536 + 2 * (P / 256 % 256) + P % 256) / 4 from rfl)
          generalize gray P = G at *
          have a2 : bits .and .i64 ((P : Int) / 256) 255 = ((P / 256 % 256 : Nat) : Int) := by
            have := i64_and (P / 256) 255 (by omega) (by omega)
            rw [and_255] at this
            rw [← this]; congr 1
          have a3 : bits .and .i64 (P : Int) 255 = ((P % 256 : Nat) : Int) := by
            have := i64_and P 255 (by omega) (by omega)
            rw [and_255] at this
            rw [← this]; congr 1
          have hGi : ((P : Int) / 65536 + 2 * ((P / 256 % 256 : Nat) : Int) + ((P % 256 : Nat) : Int)) / 4 = (G : Int) := by rw [HG0.out]; omega
          have bd2 : P / 256 % 256 ≤ 255 := by omega
          have bd3 : P % 256 ≤ 255 := by omega
          generalize P / 256 % 256 = Y at *
          generalize P % 256 = Q at *
          have w1 : IntKind.i64.wrap (2 * (Y : Int)) = 2 * (Y : Int) := IntWalk.i64_in _ ⟨by omega, by omega⟩
          have w2 : IntKind.i64.wrap ((P : Int) / 65536 + 2 * (Y : Int)) = (P : Int) / 65536 + 2 * (Y : Int) := IntWalk.i64_in _ ⟨by omega, by omega⟩
          have w3 : IntKind.i64.wrap ((P : Int) / 65536 + 2 * (Y : Int) + (Q : Int)) = (P : Int) / 65536 + 2 * (Y : Int) + (Q : Int) := IntWalk.i64_in _ ⟨by omega, by omega⟩
          have w4 : IntKind.u8.wrap (G : Int) = (G : Int) := IntWalk.u8_in _ ⟨by omega, by omega⟩
          have HA := hid hA
          have HGG := hid hG
          have HB := hid hB
          clear hA hG hB HV1 HV2 HG0 kp hbp hpx
          go_wp2
          go_region
          all_goals (
            go_wp2
            go_roundw
            case rel => exact ⟨k + 1, by omega, by go_num, by rw [← HS1.out]; exact ((HA.out.set k _).drew).far (by simp) _, by rw [← HS2.out]; exact ((HGG.out.far (by simp) _).drew).set k _, ((HB.out.setCell (by simp) _).drew).setCell (by simp) _⟩
            case measure => simp [intOf]; omega)
        · obtain rfl : k = n := by omega
          have hlt' : ¬ (k : Int) < (k : Int) := by omega
          have e1 : (ints px).take k ++ List.replicate (k - k) (.int .i64 0) = ints px := by rw [Nat.sub_self, List.take_of_length_le (by rw [HIL.out]; omega)]; simp
          have e2 : (grays px).take k ++ List.replicate (k - k) (.int .u8 0) = grays px := by rw [Nat.sub_self, List.take_of_length_le (by rw [HGL.out]; omega)]; simp
          rw [e1] at hA
          rw [e2] at hG
          have R1 := Rd.of_arr hA
          rw [HIL.out] at R1
          have R2 := Rd.of_arr hG
          rw [HGL.out] at R2
          have go := grayOf wd 60 k (some ⟨w.heap.size + 1, 0, none⟩) k px wr HN.out hwd1 (by omega) hwd2 (by omega) hn1 hn2 R1 HPP.out
          have HR2 := hid R2
          have HB := hid hB
          clear hA hG hB e1 e2 R1 R2
          go_wp2_with fail
          refine go.mono ?_
          rintro e w5 ⟨A5, c5, rfl, hc5, hR5, hb5⟩
          have HB5 := hid (HB.out.trans (hb5.mono HB.out.size))
          have ps := pxSame A5 (some ⟨w.heap.size, 0, none⟩) k c5 k px w5 hn1 hR5 (HR2.out.below hb5)
          clear hR5 hb5 go
          go_wp2_with fail
          refine ps.mono ?_
          rintro e w6 ⟨rfl, rfl⟩
          clear ps
          go_wp2_with fail
          go_ret
          exact ⟨rfl, HB5.out⟩

theorem FnPXGrays_walk (w : World) (A : Option Addr) (len cap : Nat) (zs : List Int) (hS : SlIn w A len cap (zs.map (Value.int .u32))) (hwf : ∀ n ∈ zs, (Lit.int .u32 n).wf = true) (a : Int) (ha : (Lit.int .u8 a).wf = true) :
    Calls Try.prog 6 #[.slice A len cap, .int .u8 a] w fun e w' => e = .returned (.bool true) ∧ Below w.heap.size w w' := by
  have h0 := wf_u8 ha
  obtain ⟨k, rfl⟩ := Int.eq_ofNat_of_zero_le h0.1
  refine grays_core w A len cap zs hS (fun j => ?_) k (by omega)
  by_cases hj : j < zs.length
  · exact wf_u32 (hwf (zs.getD j 0) (by rw [List.getD_eq_getElem?_getD, List.getElem?_eq_getElem hj]; simp))
  · rw [List.getD_eq_getElem?_getD, List.getElem?_eq_none (by omega)]; simp
end Go.Proofs.Ytmaghlckgfihcaa
