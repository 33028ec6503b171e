/- The magnitudes of the errors, by Forney's formula. -/
import Derived.Test.YtpkmknbmjlnkgaaLocW
namespace Go.Proofs.Ytpkmknbmjlnkgaa
open Go.RowKit
set_option linter.unusedVariables false

theorem tb_one (i : Nat) : Nat.testBit 1 i = decide (0 = i) := by
  rw [show (1 : Nat) = 2 ^ 0 from rfl, Nat.testBit_two_pow]
theorem xor1_even {t : Nat} (h : t % 2 = 0) : t ||| 1 = t ^^^ 1 := by
  apply Nat.eq_of_testBit_eq
  intro i
  rw [Nat.testBit_or, Nat.testBit_xor, tb_one]
  rcases Nat.eq_zero_or_pos i with rfl | hi
  · simp [h]
  · simp [show ¬ 0 = i by omega]
theorem and_m2 {t : Nat} (ht : t < 4096) (h : t % 2 = 1) : t &&& 18446744073709551614 = t ^^^ 1 := by
  apply Nat.eq_of_testBit_eq
  intro i
  rw [Nat.testBit_and, Nat.testBit_xor, show (18446744073709551614 : Nat) = 2 ^ 64 - (1 + 1) from rfl, Nat.testBit_two_pow_sub_succ (by decide), tb_one]
  rcases Nat.eq_zero_or_pos i with rfl | hi
  · simp [h]
  · rcases Nat.lt_or_ge i 64 with h1 | h1
    · simp [show ¬ 0 = i by omega, h1]
    · rw [Nat.testBit_lt_two_pow (Nat.lt_of_lt_of_le (show t < 2 ^ 64 by omega) (Nat.pow_le_pow_right (by decide) h1))]
      simp [show ¬ 0 = i by omega]
theorem i64_and_m2 (t : Nat) (ht : t < 4096) (h1 : t % 2 = 1) : bits .and .i64 (t : Int) (-2) = ((t ^^^ 1 : Nat) : Int) := by
  have hx : t ^^^ 1 < 4096 := Nat.xor_lt_two_pow (n := 12) ht (by decide)
  show IntKind.i64.wrap ((BitVec.ofInt 64 (t : Int) &&& BitVec.ofInt 64 (-2)).toNat : Int) = _
  rw [BitVec.toNat_and, ofInt_u64 t (by omega), show (BitVec.ofInt 64 (-2)).toNat = 18446744073709551614 from by decide, and_m2 ht h1, wrap_i64_small _ (by omega) (by omega)]
theorem i64_or_1 (t : Nat) (ht : t < 4096) (h1 : t % 2 = 0) : bits .or .i64 (t : Int) 1 = ((t ^^^ 1 : Nat) : Int) := by
  have := i64_or t 1 (by omega) (by omega)
  rw [xor1_even h1] at this
  exact this

/-- The product of the differences, but for the i-th one. -/
def denTo (p m : Nat) (locs : List Nat) (i x : Nat) : Nat → Nat
  | 0 => 1
  | j + 1 => if j = i then denTo p m locs i x j else gm p m (denTo p m locs i x j) (gm p m (locs.getD j 0) x ^^^ 1)
def denAt (p m : Nat) (locs : List Nat) (i : Nat) : Nat := denTo p m locs i (inv p m (locs.getD i 0)) locs.length
def magAt (p m base : Nat) (om locs : List Nat) (i : Nat) : Nat :=
  if base = 0 then gm p m (valAt p m (inv p m (locs.getD i 0)) om) (inv p m (denAt p m locs i))
  else gm p m (gm p m (valAt p m (inv p m (locs.getD i 0)) om) (inv p m (denAt p m locs i))) (inv p m (locs.getD i 0))
def magsL (p m base : Nat) (om locs : List Nat) (k : Nat) : List Nat := (List.range k).map (magAt p m base om locs)

section
variable {p m : Nat}
theorem denTo_lt (h : IsGF p m) {locs : List Nat} (i x : Nat) : ∀ j, denTo p m locs i x j < 2 ^ m
  | 0 => one_lt h
  | j + 1 => by
    rw [denTo]
    split
    · exact denTo_lt h i x j
    · exact gm_lt h (denTo_lt h i x j) _
theorem magAt_lt (h : IsGF p m) (base : Nat) {om locs : List Nat} (ho : AllIn m om) (i : Nat) : magAt p m base om locs i < 2 ^ m := by
  have hv := val_lt h (inv_lt h (locs.getD i 0)) ho
  unfold magAt
  split
  · exact gm_lt h hv _
  · exact gm_lt h (gm_lt h hv _) _
end

theorem inverse0 (g p m base : Nat) (w : World) : Calls Try.prog 70 #[fieldPtr g, .int .i64 0] w fun e w' => (∃ a, e = .returned (.tuple #[.int .i64 0, .iface 102 (.pointer (some a))])) ∧ Below w.heap.size w w' := by
  unfold fieldPtr
  go_enter Try.func70, Try.ntmps70
  go_wp2_with fail
  refine (errNew _ _).mono ?_
  rintro e w1 ⟨a, rfl, hb⟩
  go_wp2_with fail
  go_ret2
  exact ⟨⟨_, rfl⟩, hb⟩

/-- The magnitudes are handed back, or an error. -/
def MagOut (p m base : Nat) (om locs : List Nat) (w : World) (e : Ending) (w' : World) : Prop :=
  Below w.heap.size w w' ∧ (((∃ i, i < locs.length ∧ denAt p m locs i = 0) ∧ ∃ v, e = .returned (.tuple #[.slice none 0 0, .iface 102 v])) ∨
    ((∀ i, i < locs.length → denAt p m locs i ≠ 0) ∧ ∃ B, e = .returned (.tuple #[.slice (some ⟨B, 0, none⟩) locs.length locs.length, .nilIface]) ∧ w.heap.size ≤ B ∧ Arr w' B 3 (ints (magsL p m base om locs locs.length))))
attribute [local go_sem ↓] Go.wp_at_zero Go.wp_at_succ
set_option maxRecDepth 100000 in
set_option maxHeartbeats 8000000 in
theorem findMags (D q g p m base B n c : Nat) (A : Option Addr) (om locs : List Nat) (w : World) (h : IsGF p m) (hb1 : base ≤ 1) (hF : IsField w g p m base) (hD : w.cell? ⟨D, 0, none⟩ = some (fieldPtr g)) (hP : IsPoly w B q (fieldPtr g) om) (ho1 : 1 ≤ om.length) (hol : om.length ≤ 1000) (hoA : AllIn m om) (hR : Rd w A n (ints locs)) (hn : n ≤ 200) (hL : ∀ x ∈ locs, 0 < x ∧ x < 2 ^ m) :
    Calls Try.prog 64 #[fieldPtr D, fieldPtr q, .slice A n c] w (MagOut p m base om locs w) := by
  have hN1 : 2 ^ m ≤ 4096 := Nat.pow_le_pow_right (n := 2) (by omega) h.small
  obtain ⟨i0, hi, hz0, hz1, hz2⟩ := info_parts info3
  have hDl : D < w.heap.size := World.block_lt_of_cell? w _ hD
  have hln : locs.length = n := by have := hR.1; simpa [ints] using this
  have H := hid h
  have HF := hid hF
  have HP := hid hP
  have HDC := hid hD
  have HR := hid hR
  have HLN := hid hln
  have HLA := hid (fun j (hj : j < n) => (show 0 < locs.getD j 0 ∧ locs.getD j 0 < 2 ^ m from by
    rw [List.getD, List.getElem?_eq_getElem (by rw [hln]; exact hj)]
    exact hL _ (List.getElem_mem _)))
  have hmk := fun W => run_make (P := Try.prog) W 30 3 i0 (.int .i64 0) Try.underlying30 hi hz0 .i64 .i64 (n : Int) (n : Int) (by omega) (by omega) (by rw [hz2]; omega) (by omega)
  simp only [hz1] at hmk
  have HA1 := hid (Arr.made w 3 (.int .i64 0) n)
  have HB1 := hid (show Below w.heap.size w (w.alloc (.cells (madeCells #[.int .i64 0] n) 3)) from (Below.refl _ _).alloc (Nat.le_refl _) _)
  clear h hF hD hP hR hL hln
  unfold fieldPtr at *
  go_enter Try.func64, Try.ntmps64
  go_wp2_with fail
  generalize hw1 : w.alloc (.cells (madeCells #[.int .i64 0] n) 3) = w1 at *
  clear hw1 hmk
  go_loopw [10] (fun iv wr => ∃ i, i ≤ n ∧ iv = .int .i64 (i : Nat) ∧ (∀ j, j < i → denAt p m locs j ≠ 0) ∧ Arr wr w.heap.size 3 (ints (magsL p m base om locs i ++ List.replicate (n - i) 0)) ∧ Below w.heap.size w wr) (fun iv _ => n - (intOf iv).toNat)
  case atStart => exact ⟨0, by omega, rfl, fun j hj => by omega, by simpa [ints, magsL] using HA1.out, HB1.out⟩
  case round =>
    clear HA1 HB1
    obtain ⟨i, hin, rfl, hden, hA, hB⟩ := hrel
    have HDEN := hid hden
    have HA := hid hA
    have HB := hid hB
    by_cases hlt : i < n
    · have hlt' : (i : Int) < (n : Int) := by omega
      obtain ⟨b, o, hAe, hbl, hc⟩ := rd_int HR.out i hlt
      subst hAe
      have hx := HLA.out i hlt
      have ci := fun N => (show (wr.drewN N).cell? ⟨b, o + i, none⟩ = some (.int .i64 (locs.getD i 0 : Nat)) from (hB.cell (p := ⟨b, o + i, none⟩) hbl).trans hc)
      have ci0 := ci 0
      have hDn := fun N => (show (wr.drewN N).cell? ⟨D, 0, none⟩ = some (.pointer (some ⟨g, 0, none⟩)) from (hB.cell (p := ⟨D, 0, none⟩) hDl).trans HDC.out)
      have hD0 := hDn 0
      have iv := fun N => inverse g p m base (locs.getD i 0) (wr.drewN N) H.out (HF.out.below (below_drewN hB N)) hx.1 hx.2
      have hxl := inv_lt H.out (locs.getD i 0)
      have HDA := hid (show denAt p m locs i = denTo p m locs i (inv p m (locs.getD i 0)) n from by rw [← HLN.out]; rfl)
      have HDT := hid (fun j => denTo_lt H.out (locs := locs) i (inv p m (locs.getD i 0)) j)
      have HMA := hid (show magAt p m base om locs i = if base = 0 then gm p m (valAt p m (inv p m (locs.getD i 0)) om) (inv p m (denAt p m locs i)) else gm p m (gm p m (valAt p m (inv p m (locs.getD i 0)) om) (inv p m (denAt p m locs i))) (inv p m (locs.getD i 0)) from rfl)
      have hCELL := fun j (hj : j < n) N => (show (wr.drewN N).cell? ⟨b, o + j, none⟩ = some (.int .i64 (locs.getD j 0 : Nat)) from (by
        obtain ⟨b', o', hAe', hbl', hc'⟩ := rd_int HR.out j hj
        injection hAe' with e1
        injection e1 with e2 e3
        subst e2 e3
        exact (hB.cell (p := ⟨b, o + j, none⟩) hbl).trans hc'))
      have HCELL := hid hCELL
      clear hB hA hden hc hx ci hCELL
      generalize locs.getD i 0 = li at *
      generalize hxv : inv p m li = x at *
      have HXV := hid hxv
      clear hxv
      unfold fieldPtr at *
      have hD00 : wr.cell? ⟨D, 0, none⟩ = some (.pointer (some ⟨g, 0, none⟩)) := hD0
      have ci00 : wr.cell? ⟨b, o + i, none⟩ = some (.int .i64 (li : Nat)) := ci0
      clear hD0 ci0
      go_wp2_with fail
      go_quiet ((go_at_call 70; exact (iv _).mono fun _ _ hh => ⟨hh.1, by obtain ⟨n2, hn2⟩ := hh.2; exact ⟨_, hn2.trans (World.drewN_drewN _ _ _)⟩⟩))
      clear iv ci00
      go_wp2_with fail
      have HD := hid (fun W (hW : Below w.heap.size w W) => (hW.cell (p := ⟨D, 0, none⟩) hDl).trans HDC.out)
      have HCJ := hid (fun W (hW : Below w.heap.size w W) j (hj : j < n) => (show W.cell? ⟨b, o + j, none⟩ = some (.int .i64 (locs.getD j 0 : Nat)) from by
        obtain ⟨b', o', hAe', hbl', hc'⟩ := rd_int HR.out j hj
        injection hAe' with e1
        injection e1 with e2 e3
        subst e2 e3
        exact (hW.cell (p := ⟨b, o + j, none⟩) hbl).trans hc'))
      go_loopw [13, 14] (fun dv jv wx => ∃ (j : Nat), j ≤ n ∧ jv = .int .i64 (j : Nat) ∧ dv = .int .i64 (denTo p m locs i x j : Nat) ∧ Arr wx w.heap.size 3 (ints (magsL p m base om locs i ++ List.replicate (n - i) 0)) ∧ Below w.heap.size w wx) (fun _ jv _ => n - (intOf jv).toNat)
      case atStart => exact ⟨0, by omega, rfl, rfl, HA.out.drewN _, below_drewN HB.out _⟩
      case round =>
        obtain ⟨j, hj, rfl, rfl, hAx, hBx⟩ := hrel
        clear hDn HA HB HCELL
        have hDx := HD.out wr hBx
        have HAX := hid hAx
        have HBX := hid hBx
        have hdl := HDT.out j
        by_cases hjn : j < n
        · have hjn' : (j : Int) < (n : Int) := by omega
          by_cases hji : j = i
          · subst hji
            have HDS := hid (show denTo p m locs j x (j + 1) = denTo p m locs j x j from by rw [denTo, if_pos rfl])
            clear hAx hBx
            generalize denTo p m locs j x j = dj at *
            go_wp2_with fail
            go_roundw
            case rel => exact ⟨j + 1, by omega, by go_num, by rw [HDS.out], HAX.out, HBX.out⟩
            case measure => simp [intOf]; omega
          · have hne : ((i : Int) == (j : Int)) = false := by rw [beq_eq_false_iff_ne]; omega
            have HDS := hid (show denTo p m locs i x (j + 1) = gm p m (denTo p m locs i x j) (gm p m (locs.getD j 0) x ^^^ 1) from by rw [denTo, if_neg hji])
            have hxj := HLA.out j hjn
            have cj := HCJ.out wr hBx j hjn
            have mj := fun M => multiply g p m base (locs.getD j 0) x (wr.drewN M) H.out (HF.out.below (below_drewN hBx M)) hxj.2 hxl
            have htl := gm_lt H.out hxj.2 x
            generalize gm p m (locs.getD j 0) x = t at *
            have ht1 : t ^^^ 1 < 2 ^ m := Nat.xor_lt_two_pow htl (one_lt H.out)
            have md := fun M => multiply g p m base (denTo p m locs i x j) (t ^^^ 1) (wr.drewN M) H.out (HF.out.below (below_drewN hBx M)) hdl ht1
            have b1 : bits .and .i64 (t : Int) 1 = ((t % 2 : Nat) : Int) := by
              have := i64_and t 1 (by omega) (by omega)
              rwa [Nat.and_one_is_mod] at this
            have hDM := fun M => (show (wr.drewN M).cell? ⟨D, 0, none⟩ = some (.pointer (some ⟨g, 0, none⟩)) from hDx)
            clear hxj hAx hBx
            generalize denTo p m locs i x j = dj at *
            generalize gm p m dj (t ^^^ 1) = dj2 at *
            unfold fieldPtr at *
            generalize locs.getD j 0 = lj at *
            rcases Nat.mod_two_eq_zero_or_one t with hev | hev
            · have b2 := i64_or_1 t (by omega) hev
              rw [hev] at b1
              generalize t ^^^ 1 = t1 at *
              go_wp2_with fail
              go_quiet ((go_at_call 31; exact (mj _).mono fun _ _ hh => ⟨hh.1, by obtain ⟨n2, hn2⟩ := hh.2; exact ⟨_, hn2.trans (World.drewN_drewN _ _ _)⟩⟩))
              clear mj cj
              have hDM2 := hDM
              go_wp2_with fail
              refine (md _).mono ?_
              rintro e w5 ⟨rfl, n5, rfl⟩
              go_wp2_with fail
              go_roundw
              case rel => exact ⟨j + 1, by omega, by go_num, by rw [HDS.out], HAX.out.drewN _, below_drewN HBX.out _⟩
              case measure => simp [intOf]; omega
            · have b2 := i64_and_m2 t (by omega) hev
              rw [hev] at b1
              generalize t ^^^ 1 = t1 at *
              go_wp2_with fail
              go_quiet ((go_at_call 31; exact (mj _).mono fun _ _ hh => ⟨hh.1, by obtain ⟨n2, hn2⟩ := hh.2; exact ⟨_, hn2.trans (World.drewN_drewN _ _ _)⟩⟩))
              clear mj cj
              have hDM2 := hDM
              go_wp2_with fail
              refine (md _).mono ?_
              rintro e w5 ⟨rfl, n5, rfl⟩
              go_wp2_with fail
              go_roundw
              case rel => exact ⟨j + 1, by omega, by go_num, by rw [HDS.out], HAX.out.drewN _, below_drewN HBX.out _⟩
              case measure => simp [intOf]; omega
        · obtain rfl : j = n := by omega
          have hjn' : ¬ (j : Int) < (j : Int) := by omega
          have HDEQ := hid (show denAt p m locs i = denTo p m locs i x j from HDA.out)
          by_cases hz : denTo p m locs i x j = 0
          · rw [hz]
            have HZ := hid (HDEQ.out.trans hz)
            clear hz hdl hAx hBx
            go_wp2_with fail
            refine (inverse0 g p m base wr).mono ?_
            rintro e w5 ⟨⟨a5, rfl⟩, hb5⟩
            have HB5 := hid (HBX.out.trans (hb5.mono HBX.out.size))
            clear hb5
            go_wp2_with fail
            go_ret2
            exact ⟨HB5.out, .inl ⟨⟨i, by rw [HLN.out]; exact hlt, HZ.out⟩, _, rfl⟩⟩
          · have ivd := inverse g p m base (denTo p m locs i x j) wr H.out (HF.out.below hBx) (by omega) hdl
            have hyl := inv_lt H.out (denTo p m locs i x j)
            have HNZ := hid (show denAt p m locs i ≠ 0 from by rw [HDEQ.out]; exact hz)
            have hMA := HMA.out
            rw [HDEQ.out] at hMA
            generalize denTo p m locs i x j = dj at *
            generalize hiv : inv p m dj = y at *
            have ev := fun W (hW : Below w.heap.size w W) M => evaluateAt q g p m base B x om (W.drewN M) H.out (HF.out.below (below_drewN hW M)) (HP.out.below (below_drewN hW M)) ho1 (by omega) hxl hoA
            have hvl := val_lt H.out hxl hoA
            generalize valAt p m x om = vx at *
            have mv := fun W (hW : Below w.heap.size w W) M => multiply g p m base vx y (W.drewN M) H.out (HF.out.below (below_drewN hW M)) hvl hyl
            have HEV := hid ev
            have HMV := hid mv
            have hsl := gm_lt H.out hvl y
            generalize gm p m vx y = s at *
            have bs := fun W (hW : Below w.heap.size w W) => baseOf g p m base W (HF.out.below hW)
            have ms := fun W (hW : Below w.heap.size w W) M => multiply g p m base s x (W.drewN M) H.out (HF.out.below (below_drewN hW M)) hsl hxl
            have HBS := hid bs
            have HMS := hid ms
            have HMA2 := hid hMA
            have hlen : (ints (magsL p m base om locs i ++ List.replicate (j - i) 0)).length = j := by simp [ints, magsL]; omega
            have HSET := hid (show ∀ z : Nat, (ints (magsL p m base om locs i ++ List.replicate (j - i) 0)).set i (.int .i64 z) = ints ((magsL p m base om locs i ++ [z]) ++ List.replicate (j - (i + 1)) 0) from fun z => by
              obtain ⟨d, hd⟩ : ∃ d, j - i = d + 1 := ⟨j - i - 1, by omega⟩
              rw [hd, show j - (i + 1) = d from by omega, List.replicate_succ]
              simp [ints, magsL])
            have HSET2 := hid (show ∀ u z : Nat, (ints ((magsL p m base om locs i ++ [u]) ++ List.replicate (j - (i + 1)) 0)).set i (.int .i64 z) = ints ((magsL p m base om locs i ++ [z]) ++ List.replicate (j - (i + 1)) 0) from fun u z => by simp [ints, magsL])
            have HMAGS := hid (show magsL p m base om locs (i + 1) = magsL p m base om locs i ++ [magAt p m base om locs i] from by simp [magsL, List.range_succ])
            have HLEN := hid hlen
            clear hz hdl hiv hMA HMA bs ms hlen hAx hBx ev mv
            unfold fieldPtr at *
            go_wp2_with fail
            refine ivd.mono ?_
            rintro e w5 ⟨rfl, n5, rfl⟩
            clear ivd hDx
            have HAX5 := hid (HAX.out.drewN n5)
            have HBX5 := hid (below_drewN HBX.out n5)
            generalize wr.drewN n5 = w5 at *
            clear HAX HBX
            have hDx := HD.out w5 HBX5.out
            obtain ⟨v0, hv0⟩ := HAX5.out.has i (by rw [HLEN.out]; exact hlt)
            have fz := HAX5.out.frozen i
            have ev := HEV.out w5 HBX5.out
            have mv := HMV.out w5 HBX5.out
            unfold fieldPtr at *
            go_wp2_with fail
            go_region_with ((first | (go_at_call 36; ((with_reducible refine (ev _).mono ?_); rintro e w6 ⟨rfl, nq, rfl⟩)) | (go_at_call 31; ((with_reducible refine (mv _).mono ?_); rintro e w7 ⟨rfl, nr, rfl⟩)) | (go_at_call 36; ((with_reducible refine (ev 0).mono ?_); rintro e w6 ⟨rfl, nq, rfl⟩)) | (go_at_call 36; ((refine (ev 1).mono ?_); rintro e w6 ⟨rfl, nq, rfl⟩)) | (go_at_call 31; ((refine (mv _).mono ?_); rintro e w7 ⟨rfl, nr, rfl⟩))))
            all_goals (
              generalize hw6 : (w5.drewN (1 + nq + nr)).setCell _ _ = w6
              have HA6 := hid (show Arr w6 w.heap.size 3 (ints ((magsL p m base om locs i ++ [s]) ++ List.replicate (j - (i + 1)) 0)) from by rw [← hw6, ← HSET.out]; exact Arr.set (HAX5.out.drewN _) i _)
              have HB6 := hid (show Below w.heap.size w w6 from by rw [← hw6]; exact Below.setCell (below_drewN HBX5.out _) (Nat.le_refl _) _)
              clear hw6 ev mv hv0 fz hDx HAX5 HBX5
              have hD6 := HD.out w6 HB6.out
              have bo := HBS.out w6 HB6.out
              unfold fieldPtr at *
              go_wp2_with fail
              refine bo.mono ?_
              rintro e w7 ⟨rfl, rfl⟩
              clear bo
              by_cases hb0 : base = 0
              · subst hb0
                rw [if_pos rfl] at HMA2
                go_wp2_with fail
                go_roundw
                case rel => exact ⟨i + 1, by omega, by go_num, fun k hk => by
                  rcases Nat.lt_or_ge k i with h1 | h1
                  · exact HDEN.out k h1
                  · rw [show k = i from by omega]; exact HNZ.out, by rw [HMAGS.out, HMA2.out]; exact HA6.out, HB6.out⟩
                case measure => simp [intOf]; omega
              · have hb0' : ((base : Int) == 0) = false := by rw [beq_eq_false_iff_ne]; omega
                rw [if_neg hb0] at HMA2
                have hv6 : w6.cell? ⟨w.heap.size, i, none⟩ = some (.int .i64 (s : Nat)) := by
                  rw [HA6.out.cell? i]
                  simp [ints, magsL]
                have fz := HA6.out.frozen i
                have ms := HMS.out w6 HB6.out
                generalize gm p m s x = s2 at *
                clear hb0
                unfold fieldPtr at *
                go_wp2_with fail
                go_region_with ((first | (go_at_call 31; ((with_reducible refine (ms _).mono ?_); rintro e w7 ⟨rfl, nr2, rfl⟩)) | (go_at_call 31; ((refine (ms _).mono ?_); rintro e w7 ⟨rfl, nr2, rfl⟩))))
                all_goals (
                  go_wp2_with fail
                  go_roundw
                  case rel => exact ⟨i + 1, by omega, by go_num, fun k hk => by
                    rcases Nat.lt_or_ge k i with h1 | h1
                    · exact HDEN.out k h1
                    · rw [show k = i from by omega]; exact HNZ.out, by
                      rw [HMAGS.out, HMA2.out]
                      have := Arr.set (HA6.out.drewN (1 + nr2)) i (.int .i64 (s2 : Nat))
                      rw [HSET2.out] at this
                      exact this, Below.setCell (below_drewN HB6.out _) (Nat.le_refl _) _⟩
                  case measure => simp [intOf]; omega))
    · obtain rfl : i = n := by omega
      have hlt' : ¬ (i : Int) < (i : Int) := by omega
      have HA2 := hid (show Arr wr w.heap.size 3 (ints (magsL p m base om locs i)) by have := HA.out; rwa [Nat.sub_self, List.replicate_zero, List.append_nil] at this)
      clear hden hA hB HA
      go_wp2_with fail
      go_ret2
      exact ⟨HB.out, .inr ⟨by rw [HLN.out]; exact HDEN.out, w.heap.size, by rw [HLN.out]; rfl, Nat.le_refl _, by rw [HLN.out]; exact HA2.out⟩⟩
end Go.Proofs.Ytpkmknbmjlnkgaa
