/- The product of two polynomials, by the package. -/
import Derived.Test.YtpkmknbmjlnkgaaAddW
import Derived.Test.YtpkmknbmjlnkgaaProd
namespace Go.Proofs.Ytpkmknbmjlnkgaa
open Go.RowKit
set_option linter.unusedVariables false

section
variable {p m : Nat}
theorem rowTo_zeroX (b : List Nat) (i : Nat) (out : List Nat) : ∀ k, rowTo p m 0 b i out k = out
  | 0 => rfl
  | k + 1 => by
    rw [rowTo, rowTo_zeroX b i out k, zero_gm, Nat.xor_zero]
    apply ext_getD (by simp)
    intro j hj
    rw [List.length_set] at hj
    by_cases e : i + k = j
    · subst e; simp [List.getD, hj]
    · simp [List.getD, List.getElem?_set_ne e]
theorem rowTo_zeros (x i n : Nat) (h : i < n) : rowTo p m x [0] i (List.replicate n 0) 1 = List.replicate n 0 := by
  simp only [rowTo, Nat.add_zero]
  have h0 : gm p m x (([0] : List Nat).getD 0 0) = 0 := gm_zero x
  rw [h0, Nat.xor_zero]
  apply ext_getD (by simp)
  intro j hj
  rw [List.length_set, List.length_replicate] at hj
  by_cases e : i = j
  · subst e; simp [List.getD, hj]
  · simp [List.getD, List.getElem?_set_ne e]
theorem prod_zeroL (b : List Nat) (h1 : 1 ≤ b.length) : tidy (prodL p m [0] b) = [0] := by
  have e : prodL p m [0] b = List.replicate ((b.length - 1) + 1) 0 := by
    rw [prodL]
    show rowTo p m 0 b 0 (List.replicate (1 + b.length - 1) 0) b.length = _
    rw [rowTo_zeroX]
    congr 1
    omega
  rw [e, tidy_reps]
theorem prod_zeroR (a : List Nat) (h1 : 1 ≤ a.length) : tidy (prodL p m a [0]) = [0] := by
  have e : ∀ i, i ≤ a.length → prodTo p m a [0] i = List.replicate a.length 0 := by
    intro i
    induction i with
    | zero => intro _; simp [prodTo]
    | succ i ih =>
      intro hi
      rw [prodTo, ih (by omega)]
      exact rowTo_zeros _ _ _ (by omega)
  rw [prodL, e a.length (Nat.le_refl _), show a.length = (a.length - 1) + 1 from by omega, tidy_reps]
end

theorem polyMul0 (q1 q2 g p m base B1 B2 : Nat) (a b : List Nat) (w : World) (hF : IsField w g p m base) (hP1 : IsPoly w B1 q1 (fieldPtr g) a) (hP2 : IsPoly w B2 q2 (fieldPtr g) b) (ha1 : 1 ≤ a.length) (hb1 : 1 ≤ b.length) (ha : a.length ≤ 100000) (hb : b.length ≤ 100000) (h0 : a.getD 0 0 = 0) :
    Calls Try.prog 67 #[fieldPtr q1, fieldPtr q2] w (PtrOk (fieldPtr g) [0] w) := by
  obtain ⟨b1, o1, k1, c0, c1, hc1⟩ := hP1.coef ha1
  obtain ⟨b2, o2, k2, e0, e1, hc2⟩ := hP2.coef hb1
  have z' : ∀ n, Calls Try.prog 68 #[fieldPtr q1] (w.drewN n) (SameOut (.bool true) (w.drewN n)) := fun n => isZeroT q1 B1 _ a (w.drewN n) hP1 ha1 (by omega) h0
  have gz : ∀ n, Calls Try.prog 51 #[fieldPtr g] (w.drewN n) (PtrOut (fieldPtr g) [0] (w.drewN n)) := fun n => getZero g p m base (w.drewN n) hF
  clear hc1 hc2 hP1 hP2 h0 hF
  have hneq := neqF g
  unfold fieldPtr at *
  go_enter Try.func67, Try.ntmps67
  go_wp2_with fail
  go_quiet (fail)
  clear hneq
  go_wp2_with fail
  refine (z' _).mono ?_
  rintro e w1 ⟨rfl, rfl⟩
  clear z'
  go_wp2_with fail
  refine (gz _).mono ?_
  rintro e w1 ⟨qz, B', rfl, hz, hb⟩
  have HZ := hid hz
  clear hz gz
  unfold fieldPtr at *
  go_wp2_with fail
  go_ret2
  exact ⟨qz, B', rfl, HZ.out, (below_drewN (Below.refl _ _) _).trans hb⟩
theorem polyMul1 (q1 q2 g p m base B1 B2 : Nat) (a b : List Nat) (w : World) (hF : IsField w g p m base) (hP1 : IsPoly w B1 q1 (fieldPtr g) a) (hP2 : IsPoly w B2 q2 (fieldPtr g) b) (ha1 : 1 ≤ a.length) (hb1 : 1 ≤ b.length) (ha : a.length ≤ 100000) (hb : b.length ≤ 100000) (h0 : a.getD 0 0 ≠ 0) (h2 : b.getD 0 0 = 0) :
    Calls Try.prog 67 #[fieldPtr q1, fieldPtr q2] w (PtrOk (fieldPtr g) [0] w) := by
  obtain ⟨b1, o1, k1, c0, c1, hc1⟩ := hP1.coef ha1
  obtain ⟨b2, o2, k2, e0, e1, hc2⟩ := hP2.coef hb1
  have z' : ∀ n, Calls Try.prog 68 #[fieldPtr q1] (w.drewN n) (SameOut (.bool false) (w.drewN n)) := fun n => isZeroF q1 B1 _ a (w.drewN n) hP1 ha1 (by omega) h0
  have z2 : ∀ n, Calls Try.prog 68 #[fieldPtr q2] (w.drewN n) (SameOut (.bool true) (w.drewN n)) := fun n => isZeroT q2 B2 _ b (w.drewN n) hP2 hb1 (by omega) h2
  have gz : ∀ n, Calls Try.prog 51 #[fieldPtr g] (w.drewN n) (PtrOut (fieldPtr g) [0] (w.drewN n)) := fun n => getZero g p m base (w.drewN n) hF
  clear hc1 hc2 hP1 hP2 h0 h2 hF
  have hneq := neqF g
  unfold fieldPtr at *
  go_enter Try.func67, Try.ntmps67
  go_wp2_with fail
  go_quiet (fail)
  clear hneq
  go_wp2_with fail
  refine (z' _).mono ?_
  rintro e w1 ⟨rfl, rfl⟩
  clear z'
  go_wp2_with fail
  refine (z2 _).mono ?_
  rintro e w1 ⟨rfl, rfl⟩
  clear z2
  go_wp2_with fail
  refine (gz _).mono ?_
  rintro e w1 ⟨qz, B', rfl, hz, hb⟩
  have HZ := hid hz
  clear hz gz
  unfold fieldPtr at *
  go_wp2_with fail
  go_ret2
  exact ⟨qz, B', rfl, HZ.out, (below_drewN (Below.refl _ _) _).trans hb⟩

attribute [local go_sem ↓] Go.wp_at_zero Go.wp_at_succ
set_option maxRecDepth 100000 in
set_option maxHeartbeats 4000000 in
theorem polyMul2 (q1 q2 g p m base B1 B2 : Nat) (a b : List Nat) (w : World) (h : IsGF p m) (hF : IsField w g p m base) (hP1 : IsPoly w B1 q1 (fieldPtr g) a) (hP2 : IsPoly w B2 q2 (fieldPtr g) b) (ha1 : 1 ≤ a.length) (hb1 : 1 ≤ b.length) (ha : a.length ≤ 100000) (hb : b.length ≤ 100000) (hA : AllIn m a) (hB : AllIn m b) (h0 : a.getD 0 0 ≠ 0) (h2 : b.getD 0 0 ≠ 0) :
    Calls Try.prog 67 #[fieldPtr q1, fieldPtr q2] w (PolyOut w.heap.size (fieldPtr g) (tidy (prodL p m a b)) w) := by
  obtain ⟨i0, hi, hz0, hz1, hz2⟩ := info_parts info3
  have hN1 : 2 ^ m ≤ 4096 := Nat.pow_le_pow_right (n := 2) (by omega) h.small
  have l1 := hP1.lt
  have l2 := hP2.lt
  obtain ⟨ba, oa, ca, c0, c1, hca, hRa, hcapa, hla⟩ := hP1.coefR ha1
  obtain ⟨bb, ob, cb, e0, e1, hcb, hRb, hcapb, hlb⟩ := hP2.coefR hb1
  have z' : ∀ n, Calls Try.prog 68 #[fieldPtr q1] (w.drewN n) (SameOut (.bool false) (w.drewN n)) := fun n => isZeroF q1 B1 _ a (w.drewN n) hP1 ha1 (by omega) h0
  have z2 : ∀ n, Calls Try.prog 68 #[fieldPtr q2] (w.drewN n) (SameOut (.bool false) (w.drewN n)) := fun n => isZeroF q2 B2 _ b (w.drewN n) hP2 hb1 (by omega) h2
  have e0' := hid (show List.replicate (a.length + b.length - 1) (Value.int .i64 0) = ints (prodTo p m a b 0) by simp [ints, prodTo])
  have HPL := hid (show prodTo p m a b a.length = prodL p m a b from rfl)
  have HPLEN := hid (fun i => prodTo_len (p := p) (m := m) a b i)
  have HPIN := hid (fun i => prodTo_in h hA hB i)
  have HSTEP := hid (fun i => (show prodTo p m a b (i + 1) = rowTo p m (a.getD i 0) b i (prodTo p m a b i) b.length from rfl))
  have HGA := hid (getD_lt h hA)
  have HGB := hid (getD_lt h hB)
  have H := hid h
  have HB := hid hB
  have HF := hid hF
  have HCA := hid hca
  have HCB := hid hcb
  obtain ⟨na, hna⟩ : ∃ n, n = a.length := ⟨_, rfl⟩
  obtain ⟨nb, hnb⟩ : ∃ n, n = b.length := ⟨_, rfl⟩
  simp only [← hna, ← hnb] at c1 e1 HCA HCB ha1 hb1 ha hb e0' HPL HPLEN HSTEP
  clear hna hnb hca hcb hRa hRb hP1 hP2 h0 h2 hA hB h hF hcapa hcapb
  obtain ⟨nn, hnq⟩ : ∃ nn, nn = na + nb - 1 := ⟨_, rfl⟩
  have hmk := fun W => run_make (P := Try.prog) W 30 3 i0 (.int .i64 0) Try.underlying30 hi hz0 .i64 .i64 ((na : Int) + (nb : Int) - 1) ((na : Int) + (nb : Int) - 1) (by omega) (by omega) (by rw [hz2]; omega) (by omega)
  have hnn : ((na : Int) + (nb : Int) - 1).toNat = nn := by omega
  simp only [hz1, hnn] at hmk
  simp only [← hnq] at HPLEN e0'
  have hnb1 : nn ≤ 200000 := by omega
  have hnb2 : na + nb ≤ nn + 1 := by omega
  have hnb3 : 1 ≤ nn := by omega
  clear hnn hnq hi hz0 hz1 hz2
  have hneq := neqF g
  unfold fieldPtr at *
  go_enter Try.func67, Try.ntmps67
  go_wp2_with fail
  go_quiet (fail)
  clear hneq
  go_wp2_with fail
  refine (z' _).mono ?_
  rintro e w1 ⟨rfl, rfl⟩
  clear z'
  go_wp2_with fail
  refine (z2 _).mono ?_
  rintro e w1 ⟨rfl, rfl⟩
  clear z2
  generalize hwd : w.drewN _ = wd at *
  have b0 : Below w.heap.size w wd := by rw [← hwd]; exact below_drewN (Below.refl _ _) _
  have hs0 : wd.heap.size = w.heap.size := by rw [← hwd]; rfl
  have C0 := (b0.cell (p := ⟨q1, 0, none⟩) l1).trans c0
  have C1 := (b0.cell (p := ⟨q1, 1, none⟩) l1).trans c1
  have D1 := (b0.cell (p := ⟨q2, 1, none⟩) l2).trans e1
  have HS0 := hid hs0
  have HB0 := hid b0
  have HC0 := hid c0
  have A3 := Arr.made wd 3 (.int .i64 0) nn
  rw [e0'.out] at A3
  have BB : Below wd.heap.size wd (wd.alloc (.cells (madeCells #[.int .i64 0] nn) 3)) := (Below.refl _ _).alloc (Nat.le_refl _) _
  clear hwd c0 c1 e0 e1 b0 hs0 e0'
  go_wp2_with fail
  generalize wd.alloc (.cells (madeCells #[.int .i64 0] nn) 3) = w1 at *
  clear hmk C0 C1 D1
  go_loopw [11] (fun i wr => ∃ k : Nat, k ≤ na ∧ i = .int .i64 k ∧ Arr wr wd.heap.size 3 (ints (prodTo p m a b k)) ∧ Below wd.heap.size wd wr) (fun i _ => na - (intOf i).toNat)
  case atStart => exact ⟨0, by omega, rfl, A3, BB⟩
  case round =>
    clear A3 BB
    obtain ⟨i, hik, rfl, hO, hB⟩ := hrel
    obtain ⟨wo, rfl⟩ : ∃ wo : World, wo = wr := ⟨_, rfl⟩
    by_cases hlt : i < na
    · have hlt' : (i : Int) < (na : Int) := by omega
      have hx := HGA.out i
      have HST := hid (HSTEP.out i)
      have HPI := hid (HPIN.out i)
      have HPL2 := hid (HPLEN.out i)
      generalize hP0 : prodTo p m a b i = P0 at *
      have ck := (hB.cell (p := ⟨ba, oa + i, none⟩) (by rw [HS0.out]; exact hla)).trans ((HB0.out.cell (p := ⟨ba, oa + i, none⟩) hla).trans (HCA.out i hlt))
      generalize hai : a.getD i 0 = x at *
      have HO := hid hO
      have HBB := hid hB
      clear hP0 hai hO hB
      go_wp2_with fail
      clear ck
      go_loopw [13] (fun j wr => ∃ k : Nat, k ≤ nb ∧ j = .int .i64 k ∧ Arr wr wd.heap.size 3 (ints (rowTo p m x b i P0 k)) ∧ Below wd.heap.size wd wr) (fun j _ => nb - (intOf j).toNat)
      case atStart => exact ⟨0, by omega, rfl, HO.out, HBB.out⟩
      case round =>
        clear HO HBB
        obtain ⟨k, hk, rfl, hO, hB⟩ := hrel
        by_cases hlt2 : k < nb
        · have hlt2' : (k : Int) < (nb : Int) := by omega
          have k0 := (hB.cell (p := ⟨q1, 0, none⟩) (by rw [HS0.out]; exact l1)).trans ((HB0.out.cell (p := ⟨q1, 0, none⟩) l1).trans HC0.out)
          have k2 := (hB.cell (p := ⟨bb, ob + k, none⟩) (by rw [HS0.out]; exact hlb)).trans ((HB0.out.cell (p := ⟨bb, ob + k, none⟩) hlb).trans (HCB.out k hlt2))
          have hy := HGB.out k
          have hrl := getD_lt H.out (rowTo_in H.out (x := x) hx HB.out i HPI.out k) (i + k)
          have hlen := hid (show (rowTo p m x b i P0 k).length = nn by rw [rowTo_len]; exact HPL2.out)
          have HRS := hid (show rowTo p m x b i P0 (k + 1) = (rowTo p m x b i P0 k).set (i + k) ((rowTo p m x b i P0 k).getD (i + k) 0 ^^^ gm p m x (b.getD k 0)) from rfl)
          have hFw : IsField wr g p m base := (HF.out.below HB0.out).below (by have := hB; exact this)
          have mu := fun j => multiply g p m base x (b.getD k 0) (wr.drewN j) H.out (IsField.below (w := wr) hFw (below_drewN (Below.refl _ _) j)) hx hy
          have hgl := gm_lt H.out (a := x) hx (b.getD k 0)
          have hs1 : IntKind.i64.wrap ((i : Int) + (k : Int)) = (i : Int) + (k : Int) := IntWalk.i64_in _ ⟨by omega, by omega⟩
          have hs2 : (0 : Int) ≤ (i : Int) + (k : Int) := by omega
          have hs3 : (i : Int) + (k : Int) < (nn : Int) := by omega
          have hs4 : ((i : Int) + (k : Int)).toNat = i + k := by omega
          have kO := hO.cell (i + k) (by rw [ints_length, hlen.out]; omega)
          have kO2 : wr.cell? ⟨wd.heap.size, i + k, none⟩ = some (.int .i64 ((rowTo p m x b i P0 k).getD (i + k) 0 : Nat)) := by
            rw [kO]; simp [ints, List.getD, List.getElem?_eq_getElem (show i + k < (rowTo p m x b i P0 k).length by rw [hlen.out]; omega)]
          have fz := hO.frozen (i + k)
          have HOO := hid hO
          have HBB := hid hB
          generalize hr : (rowTo p m x b i P0 k).getD (i + k) 0 = r at *
          generalize hyy : b.getD k 0 = y at *
          generalize hss : gm p m x y = s at *
          have ao := fun W => addOr r s (by omega) (by omega) W
          unfold fieldPtr at mu
          clear kO hO hB hlen HGA HSTEP HPIN HPLEN HPL HPL2 hFw hr hyy hss
          go_wp2_with fail
          go_region_with ((first | (go_at_call 31; ((with_reducible refine (mu _).mono ?_); rintro e w5 ⟨rfl, nq, rfl⟩)) | (go_at_call 31; ((with_reducible refine (mu 0).mono ?_); rintro e w5 ⟨rfl, nq, rfl⟩)) | (go_at_call 31; ((refine (mu 1).mono ?_); rintro e w5 ⟨rfl, nq, rfl⟩)) | (go_at_call 32; ((with_reducible refine (ao _).mono ?_); rintro e w5 ⟨rfl, rfl⟩))))
          all_goals (
            go_wp2
            go_roundw
            case rel => exact ⟨k + 1, by omega, by go_num, by rw [HRS.out, ← ints_set]; exact Arr.set (HOO.out.drewN _) _ _, Below.setCell (below_drewN HBB.out _) (Nat.le_refl _) _⟩
            case measure => simp [intOf]; omega)
        · obtain rfl : k = nb := by omega
          have hlt2' : ¬ (k : Int) < (k : Int) := by omega
          have HOO := hid hO
          have HBB := hid hB
          clear hO hB
          go_wp2
          go_roundw
          case rel => exact ⟨i + 1, by omega, by go_num, by rw [HST.out]; exact HOO.out, HBB.out⟩
          case measure => simp [intOf]; omega
    · obtain rfl : i = na := by omega
      have hlt' : ¬ (i : Int) < (i : Int) := by omega
      have hR := Rd.of_arr hO
      rw [ints_length, HPLEN.out, HPL.out] at hR
      have k0 := (hB.cell (p := ⟨q1, 0, none⟩) (by rw [HS0.out]; exact l1)).trans ((HB0.out.cell (p := ⟨q1, 0, none⟩) l1).trans HC0.out)
      have HBT0 := hid (show Below w.heap.size w wo from HB0.out.trans (hB.mono (by rw [HS0.out]; exact Nat.le_refl _)))
      generalize prodL p m a b = pl at *
      have np := newPoly (some ⟨g, 0, none⟩) (some ⟨wd.heap.size, 0, none⟩) nn nn pl wd.heap.size wo hR (by omega) (by omega) (Nat.le_refl _) (fun a e => by injection e with e; subst e; exact Nat.le_refl _) hB.size
      clear hO hB hR
      go_wp2_with fail
      refine np.mono ?_
      rintro e w2 ⟨q2, rfl, hq2, hP2, hB2⟩
      have HP2 := hid hP2
      clear hP2 np
      have HBT := hid (HBT0.out.trans (hB2.mono HBT0.out.size))
      have HQ2 := hid (Nat.le_trans HBT0.out.size hq2)
      go_wp2
      go_ret2
      exact ⟨q2, rfl, HQ2.out, by have := HP2.out; rwa [HS0.out] at this, HBT.out⟩

/-- The product of two polynomials of one field, none with zeros ahead. -/
theorem polyMul (q1 q2 g p m base B1 B2 : Nat) (a b : List Nat) (w : World) (h : IsGF p m) (hF : IsField w g p m base) (hP1 : IsPoly w B1 q1 (fieldPtr g) a) (hP2 : IsPoly w B2 q2 (fieldPtr g) b) (ha1 : 1 ≤ a.length) (hb1 : 1 ≤ b.length) (ha : a.length ≤ 100000) (hb : b.length ≤ 100000) (hA : AllIn m a) (hB : AllIn m b) (hTa : tidy a = a) (hTb : tidy b = b) :
    Calls Try.prog 67 #[fieldPtr q1, fieldPtr q2] w (PtrOk (fieldPtr g) (tidy (prodL p m a b)) w) := by
  by_cases h0 : a.getD 0 0 = 0
  · rw [tidy_zero hTa ha1 h0, prod_zeroL b hb1]
    exact polyMul0 q1 q2 g p m base B1 B2 a b w hF hP1 hP2 ha1 hb1 ha hb h0
  by_cases h2 : b.getD 0 0 = 0
  · rw [tidy_zero hTb hb1 h2, prod_zeroR a ha1]
    exact polyMul1 q1 q2 g p m base B1 B2 a b w hF hP1 hP2 ha1 hb1 ha hb h0 h2
  exact (polyMul2 q1 q2 g p m base B1 B2 a b w h hF hP1 hP2 ha1 hb1 ha hb hA hB h0 h2).mono fun e w' ⟨q, he, _, hP, hb⟩ => ⟨q, _, he, hP, hb⟩
end Go.Proofs.Ytpkmknbmjlnkgaa
