/- The walk of FnBISources: the reading as the law says it. -/
import Derived.Test.YtifegijnhlbedaaSrcR
namespace Go.Proofs.Ytifegijnhlbedaa
open Go.RowKit
set_option linter.unusedVariables false

theorem bitAnd (B e : Nat) (hB : B < 256) : wrap64 (bits .and .u8 ((B : Int) / 2 ^ e) 1) = ((B / 2 ^ e % 2 : Nat) : Int) := by
  have h1 : ((B : Int) / 2 ^ e) = ((B / 2 ^ e : Nat) : Int) := by rw [Int.natCast_ediv, Int.natCast_pow]; rfl
  have h2 : B / 2 ^ e < 256 := Nat.lt_of_le_of_lt (Nat.div_le_self _ _) hB
  rw [h1]
  have := u8_and (B / 2 ^ e) 1 h2 (by omega)
  rw [show (B / 2 ^ e) &&& 1 = B / 2 ^ e % 2 ^ 1 from Nat.and_two_pow_sub_one_eq_mod _ 1, Nat.pow_one] at this
  rw [show ((1 : Nat) : Int) = 1 from rfl] at this
  rw [this, wrap64_nat _ (by omega)]

set_option maxRecDepth 4000 in
set_option maxHeartbeats 2000000 in
theorem biSource (A : Option Addr) (n c : Nat) (l : List Nat) (B : Option Addr) (N d : Nat) (vs : List Int) (w : World) (hn : n ≤ 40) (hN : N ≤ 60) (hR : Rd w A n (u8s l)) (hb : ∀ j, l.getD j 0 < 256) (hV : Rd w B N (ints64 vs)) (hvs : ∀ j, -128 ≤ vs.getD j 0 ∧ vs.getD j 0 ≤ 127) :
    Calls Try.prog 20 #[.slice A n c, .slice B N d] w (SrcOut n l vs w) := by
  obtain ⟨i3, hi3, hz30, hz31, hz32⟩ := info_parts info3s
  obtain ⟨i4, hi4, hz40, hz41, hz42⟩ := info_parts info4s
  have hvl : vs.length = N := by have := hV.1; simpa [ints64] using this
  go_enter Try.func20, Try.ntmps20
  go_wp2
  go_loopw [7, 8, 9, 10, 11] (fun v1 v3 v2 at_ i wr => ∃ k : Nat, k ≤ N ∧ i = .int .i64 k ∧ at_ = .int .i64 (posTo n vs k : Nat) ∧ Three wr w.heap.size v1 v2 v3 (valsTo n l vs k) (finesTo n vs k) (leftsTo n vs k) ∧ Below w.heap.size w wr) (fun _ _ _ _ i _ => N - (intOf i).toNat)
  case atStart => exact ⟨0, by omega, rfl, rfl, ⟨Own.nil _ _ _, Own.nil _ _ _, Own.nil _ _ _, by intro k hk; simp [Value.ownBlock] at hk, by intro k hk; simp [Value.ownBlock] at hk, by intro k hk; simp [Value.ownBlock] at hk⟩, Below.refl _ _⟩
  case round =>
    obtain ⟨k, hk, rfl, rfl, hT, hBw⟩ := hrel
    by_cases hlt : k < N
    · have h1 : (k : Int) < (N : Int) := by omega
      obtain ⟨b, o, rfl, hbw, hcell⟩ := rd_i hV k hlt
      have hc2 := (hBw.cell (p := ⟨b, o + k, none⟩) hbw).trans hcell
      have HV1 := hid (valsTo_succ n l vs k)
      have HV2 := hid (finesTo_succ n vs k)
      have HV3 := hid (leftsTo_succ n vs k)
      have L1 := valsTo_length n l vs k
      have L2 := finesTo_length n vs k
      have L3 := leftsTo_length n vs k
      have hp := posTo_le n vs k
      have HVal := hid (show valOf n l vs k = if okw n (posTo n vs k) (vs.getD k 0) then rdn l (posTo n vs k) (vs.getD k 0).toNat else 0 from rfl)
      have HPos := hid (show posTo n vs (k + 1) = if okw n (posTo n vs k) (vs.getD k 0) then posTo n vs k + (vs.getD k 0).toNat else posTo n vs k from rfl)
      have hp' := posTo_le n vs (k + 1)
      have hv12 := hvs k
      generalize valsTo n l vs k = x1 at *
      generalize finesTo n vs k = x2 at *
      generalize leftsTo n vs k = x3 at *
      generalize valOf n l vs k = x at *
      generalize hpk : posTo n vs (k + 1) = p' at *
      generalize posTo n vs k = p at *
      generalize vs.getD k 0 = v at *
      obtain ⟨hv1, hv2⟩ := hv12
      have HT := hid hT
      have HBW := hid hBw
      have LL1 := hid L1
      have LL2 := hid L2
      have LL3 := hid L3
      have HC := hid hcell
      clear hT hBw L1 L2 L3 hcell
      rcases hok : okw n p v with _ | _
      · have HOK := hid hok
        simp only [okw, decide_eq_false_iff_not] at hok
        rw [HOK.out] at HVal HPos
        simp only [Bool.false_eq_true, if_false] at HVal HPos
        have hx0 := HVal.out
        have hp0 := HPos.out
        subst hx0 hp0
        have hcase : v < 1 ∨ (1 ≤ v ∧ 32 < v) ∨ (1 ≤ v ∧ v ≤ 32 ∧ 8 * (n : Int) - p' < v) := by omega
        clear hok HVal HPos
        rcases hcase with q | ⟨q1, q2⟩ | ⟨q1, q2, q3⟩
        rotate_left 2
        have q4 : decide (v ≤ 8 * (n : Int) - p') = false := by simp; omega
        rotate_right 2
        all_goals (
          go_wp2
          go_loopw [10, 14, 15] (fun at_ x i wr' => at_ = .int .i64 (p' : Nat) ∧ x = .int .i64 0 ∧ i = .int .i64 0 ∧ wr' = wr) (fun _ _ _ _ => 0)
          case atStart => exact ⟨rfl, rfl, rfl, rfl⟩
          case round =>
            obtain ⟨rfl, rfl, rfl, rfl⟩ := hrel
            go_wp2_with (at_builtin; refine wpList_app _ rfl _ _ 23 rfl w.heap.size 3 i3 _ 8 Try.underlying23 hi3 hz30 hz31 hz32 rfl u7 x1 rfl (HT.out.o1.alloc _) _ 1 1 [.int .i64 0] rfl (Rd.one' _ _ _ _ rfl) (by simp [Value.oneCell']) (by rw [LL1.out]; unfold maxLen; omega) (by rw [LL1.out]; omega) (by have := HBW.out.size; simp; omega) ?_)
            intro v6 w6 hO6 hg6 hat6
            have s6 : wr.heap.size + 1 ≤ w6.heap.size := by have := hg6.size; simpa using this
            go_wp2_with (at_builtin; refine wpList_app _ rfl _ _ 28 rfl w.heap.size 4 i4 _ 1 Try.underlying28 hi4 hz40 hz41 hz42 rfl u9 x2 rfl (((HT.out.o2.alloc _).keep hg6 HT.out.a12.keep).alloc _) _ 1 1 [.bool false] rfl (Rd.one' _ _ _ _ rfl) (by simp [Value.oneCell']) (by rw [LL2.out]; unfold maxLen; omega) (by rw [LL2.out]; omega) (by have := HBW.out.size; simp; omega) ?_)
            intro v7 w7 hO7 hg7 hat7
            have s7 : w6.heap.size + 1 ≤ w7.heap.size := by have := hg7.size; simpa using this
            go_wp2_with (at_builtin; refine wpList_app _ rfl _ _ 23 rfl w.heap.size 3 i3 _ 8 Try.underlying23 hi3 hz30 hz31 hz32 rfl u8 x3 rfl (((((HT.out.o3.alloc _).keep hg6 HT.out.a13.keep).alloc _).keep hg7 HT.out.a23.keep).alloc _) _ 1 1 [.int .i64 (8 * (n : Int) - p')] rfl (Rd.one' _ _ _ _ rfl) (by simp [Value.oneCell']) (by rw [LL3.out]; unfold maxLen; omega) (by rw [LL3.out]; omega) (by have := HBW.out.size; simp; omega) ?_)
            intro v8 w8 hO8 hg8 hat8
            have s8 : w7.heap.size + 1 ≤ w8.heap.size := by have := hg8.size; simpa using this
            rw [show (8 * (n : Int) - p') = ((8 * n - p' : Nat) : Int) from by omega] at hO8
            have P1 : Apart v6 u9 := HT.out.a12.app hat6 (by intro k hk; have h1 := (HT.out.o2.lt k hk).2; simp; omega)
            have P2 : Apart v6 u8 := HT.out.a13.app hat6 (by intro k hk; have h1 := (HT.out.o3.lt k hk).2; simp; omega)
            have P3 : Apart v7 u8 := HT.out.a23.app hat7 (by intro k hk; have h1 := (HT.out.o3.lt k hk).2; simp; omega)
            have Q1 : Apart v7 v6 := P1.symm.app hat7 (by intro k hk; have h1 := (hO6.lt k hk).2; simp; omega)
            have Q2 : Apart v8 v6 := P2.symm.app hat8 (by intro k hk; have h1 := (hO6.lt k hk).2; simp; omega)
            have Q3 : Apart v8 v7 := P3.symm.app hat8 (by intro k hk; have h1 := (hO7.lt k hk).2; simp; omega)
            have T8 : Three w8 w.heap.size v6 v7 v8 (x1 ++ [.int .i64 ((0 : Nat) : Int)]) (x2 ++ [.bool false]) (x3 ++ [.int .i64 (8 * n - p' : Nat)]) :=
              ⟨((((hO6.alloc _).keep hg7 P1.symm.keep).alloc _).keep hg8 P2.symm.keep), (hO7.alloc _).keep hg8 P3.symm.keep, hO8, Q1.symm, Q2.symm, Q3.symm⟩
            have hsz := HBW.out.size
            have B6 : Below w.heap.size w w6 := (HBW.out.alloc hsz _).grown hg6 (by simp; omega) (fun j e => (HT.out.o1.lt j e).1)
            have B7 : Below w.heap.size w w7 := (B6.alloc B6.size _).grown hg7 (by simp; omega) (fun j e => (HT.out.o2.lt j e).1)
            have B8 : Below w.heap.size w w8 := (B7.alloc B7.size _).grown hg8 (by simp; omega) (fun j e => (HT.out.o3.lt j e).1)
            clear hg6 hg7 hg8 hat6 hat7 hat8 hO6 hO7 hO8 P1 P2 P3 Q1 Q2 Q3 B6 B7
            rw [← HV1.out] at T8
            rw [HOK.out] at HV2
            rw [← HV2.out, ← HV3.out] at T8
            have HT8 := hid T8
            have HB8 := hid B8
            clear T8 B8 hsz
            go_wp2
            go_roundw
            case rel =>
              exact ⟨k + 1, by omega, by go_num, by rw [hpk], HT8.out, HB8.out⟩
            case measure => simp [intOf]; omega)
      · have HOK := hid hok
        simp only [okw, decide_eq_true_eq] at hok
        obtain ⟨m, rfl⟩ := Int.eq_ofNat_of_zero_le (show (0 : Int) ≤ v by omega)
        rw [HOK.out] at HVal HPos
        simp only [if_true, Int.toNat_natCast] at HVal HPos
        have a1 : ¬ (m : Int) < 1 := by omega
        have a2 : (m : Int) ≤ 32 := by omega
        have a3 : (m : Int) ≤ 8 * (n : Int) - p := by omega
        have a4 : m ≤ 8 * n - p := by omega
        clear hok
        go_wp2
        go_loopw [10, 14, 15] (fun at_ x i wr' => ∃ j : Nat, j ≤ m ∧ at_ = .int .i64 (p + j : Nat) ∧ x = .int .i64 (rdn l p j : Nat) ∧ i = .int .i64 j ∧ wr' = wr) (fun _ _ i _ => m - (intOf i).toNat)
        case atStart => exact ⟨0, by omega, rfl, rfl, rfl, rfl⟩
        case round =>
          obtain ⟨j, hj, rfl, rfl, rfl, rfl⟩ := hrel
          have hRl := rdn_small l p j (by omega)
          obtain ⟨P, hP⟩ : ∃ P, P = p + j := ⟨_, rfl⟩
          rw [← hP]
          by_cases hjm : j < m
          · obtain ⟨b', o', rfl, hbw', hcell'⟩ := rd_byte hR (P / 8) (by omega)
            have hc3 := (HBW.out.cell (p := ⟨b', o' + P / 8, none⟩) hbw').trans hcell'
            have hbk := hb (P / 8)
            have HRD := hid (show rdn l p (j + 1) = 2 * rdn l p j + l.getD (P / 8) 0 / 2 ^ (7 - P % 8) % 2 by rw [hP]; rfl)
            have hal : (P : Int) / 8 < n := by omega
            have hal0 : 0 ≤ (P : Int) / 8 := by omega
            have hjm' : (j : Int) < m := by omega
            generalize l.getD (P / 8) 0 = Bt at *
            generalize rdn l p j = R at *
            have HP := hid hP
            have hPl : P ≤ 400 := by omega
            clear hcell' hP
            go_wp2
            go_roundw
            case rel =>
              rw [bitAnd Bt _ hbk]
              have hx : Bt / 2 ^ (7 - P % 8) % 2 < 2 := Nat.mod_lt _ (by omega)
              refine ⟨j + 1, by omega, ?_, ?_, by go_num, trivial⟩
              · have := HP.out; rw [this]; go_num
              · rw [HRD.out]
                generalize Bt / 2 ^ (7 - P % 8) % 2 = y at *
                rw [show (2 * (R : Int) + (y : Int)) = ((2 * R + y : Nat) : Int) from by omega, wrap64_nat _ (by omega)]
            case measure => simp [intOf]; omega
          · have hjm2 : m = j := by omega
            subst hjm2
            have hjm' : ¬ (m : Int) < m := by omega
            rw [hP, ← HPos.out, ← HVal.out]
            clear hP hjm hRl a1 a2 a3 a4 hR hV hc2
            go_wp2_with (at_builtin; refine wpList_app _ rfl _ _ 23 rfl w.heap.size 3 i3 _ 8 Try.underlying23 hi3 hz30 hz31 hz32 rfl u7 x1 rfl (HT.out.o1.alloc _) _ 1 1 [.int .i64 (x : Nat)] rfl (Rd.one' _ _ _ _ rfl) (by simp [Value.oneCell']) (by rw [LL1.out]; unfold maxLen; omega) (by rw [LL1.out]; omega) (by have := HBW.out.size; simp; omega) ?_)
            intro v6 w6 hO6 hg6 hat6
            have s6 : wr.heap.size + 1 ≤ w6.heap.size := by have := hg6.size; simpa using this
            go_wp2_with (at_builtin; refine wpList_app _ rfl _ _ 28 rfl w.heap.size 4 i4 _ 1 Try.underlying28 hi4 hz40 hz41 hz42 rfl u9 x2 rfl (((HT.out.o2.alloc _).keep hg6 HT.out.a12.keep).alloc _) _ 1 1 [.bool true] rfl (Rd.one' _ _ _ _ rfl) (by simp [Value.oneCell']) (by rw [LL2.out]; unfold maxLen; omega) (by rw [LL2.out]; omega) (by have := HBW.out.size; simp; omega) ?_)
            intro v7 w7 hO7 hg7 hat7
            have s7 : w6.heap.size + 1 ≤ w7.heap.size := by have := hg7.size; simpa using this
            go_wp2_with (at_builtin; refine wpList_app _ rfl _ _ 23 rfl w.heap.size 3 i3 _ 8 Try.underlying23 hi3 hz30 hz31 hz32 rfl u8 x3 rfl (((((HT.out.o3.alloc _).keep hg6 HT.out.a13.keep).alloc _).keep hg7 HT.out.a23.keep).alloc _) _ 1 1 [.int .i64 (8 * (n : Int) - p')] rfl (Rd.one' _ _ _ _ rfl) (by simp [Value.oneCell']) (by rw [LL3.out]; unfold maxLen; omega) (by rw [LL3.out]; omega) (by have := HBW.out.size; simp; omega) ?_)
            intro v8 w8 hO8 hg8 hat8
            have s8 : w7.heap.size + 1 ≤ w8.heap.size := by have := hg8.size; simpa using this
            rw [show (8 * (n : Int) - p') = ((8 * n - p' : Nat) : Int) from by omega] at hO8
            have P1 : Apart v6 u9 := HT.out.a12.app hat6 (by intro k hk; have h1 := (HT.out.o2.lt k hk).2; simp; omega)
            have P2 : Apart v6 u8 := HT.out.a13.app hat6 (by intro k hk; have h1 := (HT.out.o3.lt k hk).2; simp; omega)
            have P3 : Apart v7 u8 := HT.out.a23.app hat7 (by intro k hk; have h1 := (HT.out.o3.lt k hk).2; simp; omega)
            have Q1 : Apart v7 v6 := P1.symm.app hat7 (by intro k hk; have h1 := (hO6.lt k hk).2; simp; omega)
            have Q2 : Apart v8 v6 := P2.symm.app hat8 (by intro k hk; have h1 := (hO6.lt k hk).2; simp; omega)
            have Q3 : Apart v8 v7 := P3.symm.app hat8 (by intro k hk; have h1 := (hO7.lt k hk).2; simp; omega)
            have T8 : Three w8 w.heap.size v6 v7 v8 (x1 ++ [.int .i64 (x : Nat)]) (x2 ++ [.bool true]) (x3 ++ [.int .i64 (8 * n - p' : Nat)]) :=
              ⟨((((hO6.alloc _).keep hg7 P1.symm.keep).alloc _).keep hg8 P2.symm.keep), (hO7.alloc _).keep hg8 P3.symm.keep, hO8, Q1.symm, Q2.symm, Q3.symm⟩
            have hsz := HBW.out.size
            have B6 : Below w.heap.size w w6 := (HBW.out.alloc hsz _).grown hg6 (by simp; omega) (fun j e => (HT.out.o1.lt j e).1)
            have B7 : Below w.heap.size w w7 := (B6.alloc B6.size _).grown hg7 (by simp; omega) (fun j e => (HT.out.o2.lt j e).1)
            have B8 : Below w.heap.size w w8 := (B7.alloc B7.size _).grown hg8 (by simp; omega) (fun j e => (HT.out.o3.lt j e).1)
            clear hg6 hg7 hg8 hat6 hat7 hat8 hO6 hO7 hO8 P1 P2 P3 Q1 Q2 Q3 B6 B7
            rw [← HV1.out] at T8
            rw [HOK.out] at HV2
            rw [← HV2.out, ← HV3.out] at T8
            have HT8 := hid T8
            have HB8 := hid B8
            clear T8 B8 hsz
            go_wp2
            go_roundw
            case rel =>
              exact ⟨k + 1, by omega, by go_num, by rw [hpk], HT8.out, HB8.out⟩
            case measure => simp [intOf]; omega
    · obtain rfl : k = N := by omega
      subst hvl
      obtain ⟨A1, c1, e1, R1, _⟩ := hT.o1.form
      obtain ⟨A2, c2, e2, R2, _⟩ := hT.o2.form
      obtain ⟨A3, c3, e3, R3, _⟩ := hT.o3.form
      rw [valsTo_length] at e1 R1
      rw [finesTo_length] at e2 R2
      rw [leftsTo_length] at e3 R3
      subst e1 e2 e3
      have HR1 := hid R1
      have HR2 := hid R2
      have HR3 := hid R3
      generalize posTo n vs vs.length = pp at *
      clear R1 R2 R3 hT
      go_wp2
      go_ret3
      exact ⟨A1, c1, A2, c2, A3, c3, rfl, HR1.out, HR2.out, HR3.out, hBw⟩
end Go.Proofs.Ytifegijnhlbedaa
