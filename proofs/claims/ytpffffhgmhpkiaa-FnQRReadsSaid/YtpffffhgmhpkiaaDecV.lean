/- decoder.Version_decodeVersionInformation (func 32): the walk. -/
import Derived.Test.YtpffffhgmhpkiaaDiffW
namespace Go.Proofs.Ytpffffhgmhpkiaa
open Go.RowKit
set_option linter.unusedVariables false
def ErrNew (w : World) (e : Ending) (w' : World) : Prop := ∃ t q, e = .returned (.iface t (.pointer (some ⟨q, 0, none⟩))) ∧ Below w.heap.size w w'
set_option maxRecDepth 20000 in
theorem errNew (s : ByteArray) (w : World) : Calls Try.prog 79 #[.string s] w (ErrNew w) := by
  have hB := (Below.refl w.heap.size w).alloc (Nat.le_refl _) (.cells #[.string s] 191)
  have HB := hid hB
  clear hB
  go_enter Try.func79, Try.ntmps79
  go_wp2_with fail
  go_ret
  exact ⟨_, _, rfl, HB.out⟩

/-- The number of the i-th row of bits. -/
def tb (i : Nat) : Nat := vtab.getD i 0
theorem tb_lt (i : Nat) : tb i < 262144 := by
  rcases Nat.lt_or_ge i 34 with h | h
  · have : ((List.range 34).all fun i => decide (tb i < 262144)) = true := by decide +kernel
    simpa using List.all_eq_true.1 this i (List.mem_range.2 h)
  · unfold tb; rw [List.getD, List.getElem?_eq_none (by simpa [vtab] using h)]; decide
theorem tb_cell {w : World} {g : Nat} (h : Arr w g 3 (vtab.map fun (x : Nat) => Value.int .i64 x)) (i : Nat) (hi : i < 34) : w.cell? ⟨g, i, none⟩ = some (.int .i64 (tb i : Nat)) := by
  have hl : i < vtab.length := hi
  rw [h.cell? i, List.getElem?_map, List.getElem?_eq_getElem hl]
  simp [tb, List.getD, List.getElem?_eq_getElem hl]
/-- Which is best so far. -/
def Best (x i b bv : Nat) : Prop := (i = 0 ∧ b = 2147483647 ∧ bv = 0) ∨ ∃ j, j < i ∧ b = far x (tb j) ∧ bv = j + 7 ∧ ∀ k, k < i → b ≤ far x (tb k)
theorem far_le (x y : Nat) : far x y ≤ 18 := pops_le _ _
theorem Best.less {x i b bv : Nat} (h : Best x i b bv) (hl : far x (tb i) < b) : Best x (i + 1) (far x (tb i)) (i + 7) := by
  refine .inr ⟨i, by omega, rfl, rfl, fun k hk => ?_⟩
  rcases Nat.lt_or_ge k i with hki | hki
  · rcases h with ⟨rfl, _⟩ | ⟨j, _, _, _, ha⟩
    · omega
    · have := ha k hki; omega
  · obtain rfl : k = i := by omega
    exact Nat.le_refl _
theorem Best.more {x i b bv : Nat} (h : Best x i b bv) (hl : ¬ far x (tb i) < b) : Best x (i + 1) b bv := by
  rcases h with ⟨rfl, rfl, rfl⟩ | ⟨j, hj, hb, hv, ha⟩
  · have := far_le x (tb 0); omega
  · refine .inr ⟨j, by omega, hb, hv, fun k hk => ?_⟩
    rcases Nat.lt_or_ge k i with hki | hki
    · exact ha k hki
    · obtain rfl : k = i := by omega
      omega
def DecOut (x : Nat) (w : World) (e : Ending) (w' : World) : Prop :=
  (∃ i, i < 34 ∧ far x (tb i) ≤ 3 ∧ GotVer (i + 7) (vrow (i + 7)) w e w') ∨
  ((∀ i, i < 34 → 3 < far x (tb i)) ∧ ∃ t q, e = .returned (.tuple #[.pointer none, .iface t (.pointer (some ⟨q, 0, none⟩))]) ∧ Below w.heap.size w w')

set_option maxRecDepth 20000 in
set_option maxHeartbeats 8000000 in
theorem decVer (x : Nat) (hx : x < 262144) (w : World) : Calls Try.prog 69 #[.int .i64 x] w (DecOut x w) := by
  have tab := table w
  have DF := hid (fun i W => differ x (tb i) hx (tb_lt i) W)
  have GV := hid (fun v h1 h2 W => getVer v h1 h2 W)
  go_enter Try.func69, Try.ntmps69
  go_wp2_with fail
  refine tab.mono ?_
  rintro e w1 ⟨rfl, hA, hb1⟩
  have hgl := hA.lt
  have HA := hid hA
  have HB1 := hid hb1
  clear hA hb1 tab
  go_wp2_with fail
  go_loopw [4, 5, 11] (fun bv vv iv wr => ∃ i b v : Nat, i ≤ 34 ∧ Best x i b v ∧ b ≤ 2147483647 ∧ v ≤ 40 ∧ bv = .int .i64 b ∧ vv = .int .i64 v ∧ iv = .int .i64 i ∧ w1 = wr) (fun _ _ iv _ => 34 - (intOf iv).toNat)
  case atStart => exact ⟨0, 2147483647, 0, by omega, .inl ⟨rfl, rfl, rfl⟩, by omega, by omega, rfl, rfl, rfl, rfl⟩
  case round =>
    obtain ⟨i, b, v, hi, hbest, hb, hv, rfl, rfl, rfl, rfl⟩ := hrel
    have HBEST := hid hbest
    clear hbest
    by_cases hlt : i < 34
    · have hlt' : (i : Int) < 34 := by omega
      have c0 := tb_cell HA.out i hlt
      have df := DF.out i w1
      have hfl := far_le x (tb i)
      have htl := tb_lt i
      by_cases heq : tb i = x
      · have hself : far x (tb i) = 0 := by rw [heq]; exact far_self x
        have gv := GV.out (i + 7) (by omega) (by omega) w1
        obtain ⟨v1, hv1⟩ : ∃ v1, v1 = i + 7 := ⟨_, rfl⟩
        have e7 : (i : Int) + 7 = (v1 : Int) := by omega
        rw [← hv1] at gv
        rw [heq] at c0
        have HV := hid hv1
        clear hv1 df
        go_wp2_with fail
        refine gv.mono ?_
        rintro e w2 ⟨q, rfl, hI, hb2⟩
        have HI := hid hI
        have HB2 := hid (HB1.out.trans (hb2.mono HB1.out.size))
        clear hI hb2 gv
        go_wp2_with fail
        go_ret2
        refine .inl ⟨i, hlt, by omega, ?_⟩
        rw [← HV.out]
        exact ⟨q, rfl, HI.out, HB2.out⟩
      · have hne : ¬ (tb i : Int) = (x : Int) := by omega
        generalize htb : tb i = t at *
        generalize hfr : far x t = d at *
        go_wp2_with fail
        refine df.mono ?_
        rintro e w2 ⟨rfl, rfl⟩
        clear df
        by_cases hd : d < b
        · have hd' : (d : Int) < (b : Int) := by omega
          go_wp2_with fail
          go_roundw
          case rel => exact ⟨i + 1, d, i + 7, by omega, by have := HBEST.out.less (by rw [htb, hfr]; exact hd); rw [htb, hfr] at this; exact this, by omega, by omega, rfl, by go_num, by go_num, by first | rfl | trivial⟩
          case measure => simp [intOf]; omega
        · have hd' : ¬ (d : Int) < (b : Int) := by omega
          go_wp2_with fail
          go_roundw
          case rel => exact ⟨i + 1, b, v, by omega, HBEST.out.more (by rw [htb, hfr]; exact hd), hb, hv, rfl, rfl, by go_num, by first | rfl | trivial⟩
          case measure => simp [intOf]; omega
    · obtain rfl : i = 34 := by omega
      rcases HBEST.out with ⟨h, _, _⟩ | ⟨j, hj, hbj, hvj, hall⟩
      · omega
      have HJ := hid hbj
      have HALL := hid hall
      clear hall HBEST
      by_cases h3 : b ≤ 3
      · have h3' : (b : Int) ≤ 3 := by omega
        have gv := GV.out v (by omega) hv w1
        have HV := hid hvj
        clear hvj hbj
        go_wp2_with fail
        refine gv.mono ?_
        rintro e w2 ⟨q, rfl, hI, hb2⟩
        have HI := hid hI
        have HB2 := hid (HB1.out.trans (hb2.mono HB1.out.size))
        clear hI hb2 gv
        go_wp2_with fail
        go_ret2
        refine .inl ⟨j, hj, by rw [← HJ.out]; exact h3, ?_⟩
        rw [← HV.out]
        exact ⟨q, rfl, HI.out, HB2.out⟩
      · have h3' : ¬ (b : Int) ≤ 3 := by omega
        clear hvj hbj
        have er := fun s W => errNew s W
        go_wp2_with fail
        refine (er _ w1).mono ?_
        rintro e w2 ⟨t, q, rfl, hb2⟩
        have HB2 := hid (HB1.out.trans (hb2.mono HB1.out.size))
        clear hb2
        go_wp2_with fail
        go_ret2
        exact .inr ⟨fun k hk => by have := HALL.out k hk; omega, t, q, rfl, HB2.out⟩
end Go.Proofs.Ytpffffhgmhpkiaa
