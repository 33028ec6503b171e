/- FnQRVersionInfos: the walk of the law. -/
import Derived.Test.YtjgckbccbambmaaDecV
import Derived.Test.YtjgckbccbambmaaRestV
namespace Go.Proofs.Ytjgckbccbambmaa
open Go.RowKit
set_option linter.unusedVariables false
def VbOut (x : Nat) (w : World) (e : Ending) (w' : World) : Prop :=
  ∃ (z : Nat) (is : Bool), e = .returned (.tuple #[.int .i64 z, .bool is]) ∧ ((∃ i, i < 34 ∧ far x (tb i) ≤ 3 ∧ z = i + 7 ∧ is = true) ∨ ((∀ i, i < 34 → 3 < far x (tb i)) ∧ is = false)) ∧ Below w.heap.size w w'
set_option maxRecDepth 20000 in
set_option maxHeartbeats 4000000 in
theorem vbOut (x : Nat) (hx : x < 262144) (w : World) : Calls Try.prog 10 #[.int .i64 x] w (VbOut x w) := by
  have dv := decVer x hx w
  go_enter Try.func10, Try.ntmps10
  go_wp2_with fail
  refine dv.mono ?_
  rintro e w1 h
  clear dv
  rcases h with ⟨i, hi, hf, q, rfl, hI, hb⟩ | ⟨hall, t, q, rfl, hb⟩
  · obtain ⟨C, E, z, hQ, _⟩ := hI
    have HF := hid hf
    clear hf
    have q0 : w1.cell? ⟨q, 0, none⟩ = some (.int .i64 (i + 7 : Nat)) := hQ.cell? 0
    have vn := verNum q _ w1 q0
    have HB := hid hb
    clear hQ hb q0
    go_wp2_with fail
    refine vn.mono ?_
    rintro e w2 ⟨rfl, rfl⟩
    clear vn
    go_wp2_with fail
    go_ret2
    exact ⟨i + 7, true, rfl, .inl ⟨i, hi, HF.out, rfl, rfl⟩, HB.out⟩
  · have HALL := hid hall
    have HB := hid hb
    clear hall hb
    go_wp2_with fail
    go_ret2
    exact ⟨0, false, rfl, .inr ⟨HALL.out, rfl⟩, HB.out⟩

theorem low18 (y : Nat) (h : y < 4294967296) : bits .and .u32 (y : Int) 262143 = ((y % 262144 : Nat) : Int) := by
  have e : y &&& 262143 = y % 262144 := Nat.and_two_pow_sub_one_eq_mod y 18
  rw [← e]
  have hx : y &&& 262143 < 2 ^ 32 := Nat.and_lt_two_pow _ (by omega)
  show IntKind.u32.wrap ((BitVec.ofInt 32 (y : Int) &&& BitVec.ofInt 32 (262143 : Int)).toNat : Int) = _
  have e2 : (BitVec.ofInt 32 (y : Int)).toNat = y := by rw [BitVec.toNat_ofInt]; omega
  rw [BitVec.toNat_and, e2]
  simp [IntKind.wrap, IntKind.bits, IntKind.signed]
  omega
set_option maxRecDepth 20000 in
set_option maxHeartbeats 8000000 in
theorem FnQRVersionInfos_walk (w : World) (z : Int) (hz : (Lit.int .u32 z).wf = true) :
    Calls Try.prog 4 #[.int .u32 z] w fun e w' => e = .returned (.bool true) ∧ Below w.heap.size w w' := by
  obtain ⟨hz0, hz1⟩ := wf_u32 hz
  obtain ⟨y, rfl⟩ : ∃ n : Nat, z = n := ⟨z.toNat, by omega⟩
  obtain ⟨x, hx⟩ : ∃ x, x = y % 262144 := ⟨_, rfl⟩
  have hxl : x < 262144 := by omega
  have hxi : bits .and .u32 (y : Int) 262143 = (x : Int) := by rw [low18 y (by omega), hx]
  have vb := fun W => vbOut x hxl W
  have AP := hid (fun v W => apart x (tb v) hxl (tb_lt v) W)
  have VB := hid (fun v h1 h2 W => vbits v h1 h2 W)
  clear hz hx
  go_enter Try.func4, Try.ntmps4
  go_wp2_with fail
  refine (vb _).mono ?_
  rintro e w1 ⟨vz, is, rfl, hor, hb⟩
  have HOR := hid hor
  have HB := hid hb
  clear hor hb vb
  go_wp2_with fail
  go_loopw [6] (fun iv wr => ∃ k : Nat, k ≤ 34 ∧ iv = .int .i64 (k + 7 : Nat) ∧ (∀ j, j < k → 3 < far x (tb j)) ∧ ∃ m, w1.drewN m = wr) (fun iv _ => 41 - (intOf iv).toNat)
  case atStart => exact ⟨0, by omega, rfl, fun j hj => by omega, 0, rfl⟩
  case round =>
    obtain ⟨k, hk, rfl, hall, m, rfl⟩ := hrel
    have HALL := hid hall
    have HB2 := hid (fun n => below_drewN HB.out n)
    clear hall
    by_cases hlt : k < 34
    · obtain ⟨v, hv⟩ : ∃ v, v = k + 7 := ⟨_, rfl⟩
      have ap := AP.out k
      have vt := VB.out v (by omega) (by omega)
      have e1 : vtab.getD (v - 7) 0 = tb k := by rw [hv, Nat.add_sub_cancel]; rfl
      rw [e1] at vt
      have hle : (v : Int) ≤ 40 := by omega
      rw [← hv]
      have HV := hid hv
      clear hv e1
      by_cases hn : far x (tb k) ≤ 3
      · have hor := HOR.out
        rcases hor with ⟨i, hi, hf, rfl, rfl⟩ | ⟨ha, rfl⟩
        · obtain rfl : i = k := near_one x i k hi hlt hf hn
          rw [← HV.out]
          generalize far x (tb i) = d at *
          generalize tb i = t at *
          have hn' : (d : Int) ≤ 3 := by omega
          go_wp2_with fail
          refine (vt _).mono ?_
          rintro e w2 ⟨rfl, m2, rfl⟩
          go_wp2_with fail
          refine (ap _).mono ?_
          rintro e w2 ⟨rfl, m3, rfl⟩
          go_wp2_with fail
          go_ret
          exact ⟨rfl, HB2.out _⟩
        · have := ha k hlt; omega
      · have hstep : ∀ j, j < k + 1 → 3 < far x (tb j) := fun j hj => by
          rcases Nat.lt_or_ge j k with h | h
          · exact HALL.out j h
          · obtain rfl : j = k := by omega
            omega
        have HST := hid hstep
        generalize far x (tb k) = d at *
        generalize tb k = t at *
        have hn' : ¬ (d : Int) ≤ 3 := by omega
        clear hstep
        go_wp2_with fail
        refine (vt _).mono ?_
        rintro e w2 ⟨rfl, m2, rfl⟩
        go_wp2_with fail
        refine (ap _).mono ?_
        rintro e w2 ⟨rfl, m3, rfl⟩
        go_wp2_with fail
        go_roundw
        case rel => exact ⟨k + 1, by omega, by rw [HV.out]; go_num, HST.out, _, rfl⟩
        case measure => have := HV.out; simp [intOf]; omega
    · obtain rfl : k = 34 := by omega
      have hor := HOR.out
      rcases hor with ⟨i, hi, hf, rfl, rfl⟩ | ⟨ha, rfl⟩
      · have := HALL.out i hi; omega
      · go_wp2_with fail
        go_ret
        exact ⟨rfl, HB2.out _⟩
end Go.Proofs.Ytjgckbccbambmaa
