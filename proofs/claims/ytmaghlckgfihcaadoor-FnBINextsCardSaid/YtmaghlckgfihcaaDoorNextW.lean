/- gozxing.BitArray.GetNextSet, GetNextUnset. -/
import Derived.Test.YtmaghlckgfihcaaDoorTzW
import Derived.Test.YtmaghlckgfihcaaDoorTwiceW
namespace Go.Proofs.YtmaghlckgfihcaaDoor
open Go.RowKit
set_option linter.unusedVariables false

theorem high_bit (m j : Nat) (hm : m < 32) (hj : j < 32) : (2 ^ 32 - 2 ^ m).testBit j = decide (m ≤ j) := by
  have hp := Nat.two_pow_pos m
  have h32 : 2 ^ m < 2 ^ 32 := Nat.pow_lt_pow_right (by omega) hm
  rw [show 2 ^ 32 - 2 ^ m = 2 ^ 32 - (2 ^ m - 1 + 1) from by omega, Nat.testBit_two_pow_sub_succ (by omega), Nat.testBit_two_pow_sub_one]
  simp only [hj, decide_true, Bool.true_and]
  by_cases h : j < m
  · simp [h]
  · simp [h]; omega
theorem mask_nat (v m : Nat) (hv : v < 4294967296) (hm : m < 32) : bits .and .u32 (v : Int) (-((2 : Int) ^ m % 4294967296) % 4294967296) = ((v &&& (2 ^ 32 - 2 ^ m) : Nat) : Int) := by
  have hp := Nat.two_pow_pos m
  have h32 : 2 ^ m < 2 ^ 32 := Nat.pow_lt_pow_right (by omega) hm
  have e : -((2 : Int) ^ m % 4294967296) % 4294967296 = ((2 ^ 32 - 2 ^ m : Nat) : Int) := by
    rw [pow_mod h32]
    generalize 2 ^ m = p at *
    omega
  rw [e, u32_and_nat v _ hv (by omega)]
theorem next_ext {C : Nat → Bool} {n fr r : Nat} (h0 : fr < n) (h1 : fr ≤ r) (h2 : ∀ j, fr ≤ j → j < r → C j = false) (h3 : C r = true) : IsNext C n fr (if n < r then n else r) := by
  refine .inr ⟨h0, ?_, ?_, ?_, ?_⟩
  · split <;> omega
  · split <;> omega
  · intro j a b
    exact h2 j a (by split at b <;> omega)
  · intro h
    rw [if_neg (by split at h <;> omega)]
    exact h3

def NextOut (C : Nat → Bool) (n fr : Nat) (w : World) (e : Ending) (w' : World) : Prop := ∃ r : Nat, e = .returned (.int .i64 r) ∧ IsNext C n fr r ∧ w = w'

set_option maxRecDepth 20000 in
set_option maxHeartbeats 4000000 in
theorem nextSet (q g n nw fr : Nat) (ws : List Nat) (B : Nat → Bool) (w : World) (h : IsBA w q g n nw ws B) (hT : Tab w) (hfr : fr ≤ 65535) (hnw : nw ≤ 7) :
    Calls Tryd.prog 8 #[.pointer (some ⟨q, 0, none⟩), .int .i64 fr] w (NextOut B n fr w) := by
  obtain ⟨c0, c1⟩ := h.facts
  have HM := hid h
  have HT := hid hT
  by_cases hge : n ≤ fr
  · have hge' : (n : Int) ≤ (fr : Int) := by omega
    clear h hT
    go_enter Tryd.func8, Tryd.ntmps8
    go_wp2
    go_ret
    exact ⟨n, rfl, .inl ⟨hge, rfl⟩, rfl⟩
  have hge' : ¬ (n : Int) ≤ (fr : Int) := by omega
  have hwr := h.wr
  have hrw := h.rw_
  have hk : fr / 32 < nw := by omega
  have e3 : (fr : Int) / 32 = ((fr / 32 : Nat) : Int) := by omega
  have e4 : bits .and .i64 (fr : Int) 31 = ((fr % 32 : Nat) : Int) := by
    have := i64_and fr 31 (by omega) (by omega)
    rw [show fr &&& 31 = fr % 32 from Nat.and_two_pow_sub_one_eq_mod fr 5] at this
    exact this
  have c4 := u32s_at h.bits (fr / 32) (by rw [h.sh.len, Nat.mul_one]; exact hk)
  have hm : fr % 32 < 32 := Nat.mod_lt _ (by omega)
  have hmk := mask_nat (ws.getD (fr / 32) 0) (fr % 32) (h.sh.lt _) hm
  have hbit : ∀ j, j < 32 → (ws.getD (fr / 32) 0 &&& (2 ^ 32 - 2 ^ (fr % 32))).testBit j = (decide (fr ≤ 32 * (fr / 32) + j) && B (32 * (fr / 32) + j)) := by
    intro j hj
    rw [Nat.testBit_and, high_bit _ _ hm hj]
    have := h.sh.at1 (x := 32 * (fr / 32) + j) (by omega)
    rw [show (32 * (fr / 32) + j) / 32 = fr / 32 from by omega, show (32 * (fr / 32) + j) % 32 = j from by omega] at this
    rw [this, Bool.and_comm]
    congr 1
    exact decide_eq_decide.2 (by omega)
  have hlt : (ws.getD (fr / 32) 0 &&& (2 ^ 32 - 2 ^ (fr % 32))) < 4294967296 := Nat.and_lt_two_pow (n := 32) _ (Nat.sub_lt (by decide) (Nat.two_pow_pos _))
  have hlow : ∀ j, fr ≤ j → j < 32 * (fr / 32) → B j = false := fun j a b => by omega
  generalize hd0 : fr / 32 = d0 at *
  generalize hm0 : fr % 32 = m0 at *
  generalize ws.getD d0 0 &&& (2 ^ 32 - 2 ^ m0) = cb0 at *
  generalize ws.getD d0 0 = wd at *
  have HBIT := hid hbit
  have HLOW := hid hlow
  have i1 : (d0 : Int) < (nw : Int) := by omega
  clear h hT hbit hlow
  go_enter Tryd.func8, Tryd.ntmps8
  go_wp2
  go_loopw [5, 6] (fun dv cv wr => ∃ d cb : Nat, d < nw ∧ fr < 32 * (d + 1) ∧ dv = .int .i64 (d : Nat) ∧ cv = .int .u32 (cb : Nat) ∧ cb < 4294967296 ∧ Hid (∀ j, j < 32 → cb.testBit j = (decide (fr ≤ 32 * d + j) && B (32 * d + j))) ∧ Hid (∀ j, fr ≤ j → j < 32 * d → B j = false) ∧ w = wr) (fun dv _ _ => nw - (intOf dv).toNat)
  case atStart => exact ⟨d0, cb0, hk, by omega, rfl, rfl, hlt, HBIT, HLOW, rfl⟩
  case round =>
    clear HBIT HLOW c4 hmk hlt i1
    obtain ⟨d, cb, hd, hfd, rfl, rfl, hcb, HBIT, HLOW, rfl⟩ := hrel
    by_cases h0 : cb = 0
    · subst h0
      have HZ : Hid (∀ j, fr ≤ j → j < 32 * (d + 1) → B j = false) := hid (fun j a b => by
        rcases Nat.lt_or_ge j (32 * d) with h1 | h1
        · exact HLOW.out j a h1
        · have := HBIT.out (j - 32 * d) (by omega)
          rw [show 32 * d + (j - 32 * d) = j from by omega, Nat.zero_testBit] at this
          simpa [a] using this)
      by_cases hdn : d + 1 = nw
      · have hdn' : (d : Int) + 1 = (nw : Int) := by omega
        clear hdn
        go_wp2
        go_ret
        refine ⟨n, rfl, .inr ⟨by omega, by omega, Nat.le_refl _, fun j a b => HZ.out j a (by omega), fun hh => absurd hh (by omega)⟩, rfl⟩
      · have hdn' : ¬ (d : Int) + 1 = (nw : Int) := by omega
        have c5 := u32s_at HM.out.bits (d + 1) (by rw [HM.out.sh.len, Nat.mul_one]; omega)
        have hl5 := HM.out.sh.lt (d + 1)
        have HB5 := hid (fun j (hj : j < 32) => show (ws.getD (d + 1) 0).testBit j = (decide (fr ≤ 32 * (d + 1) + j) && B (32 * (d + 1) + j)) from by
          have := HM.out.sh.at1 (x := 32 * (d + 1) + j) (by omega)
          rw [show (32 * (d + 1) + j) / 32 = d + 1 from by omega, show (32 * (d + 1) + j) % 32 = j from by omega] at this
          rw [this, decide_eq_true (by omega), Bool.true_and])
        generalize ws.getD (d + 1) 0 = wd5 at *
        have e5 : (d : Int) + 1 = ((d + 1 : Nat) : Int) := by omega
        have e6 : ((d + 1 : Nat) : Int) < (nw : Int) := by omega
        generalize hd5 : d + 1 = d5 at *
        go_wp2
        go_roundw
        case rel => exact ⟨d5, wd5, by omega, by omega, rfl, rfl, hl5, HB5, hid (fun j a b => HZ.out j a (by omega)), by first | rfl | trivial⟩
        case measure => simp [intOf]; omega
    · obtain ⟨k, hk1, hk2, hk3⟩ := low_some cb hcb h0
      have tz := tz32 cb k w HT.out hcb hk1 hk2 hk3
      have hb := HBIT.out k hk1
      rw [hk2] at hb
      have hb2 : fr ≤ 32 * d + k ∧ B (32 * d + k) = true := by simpa using hb.symm
      have HN := hid (next_ext (C := B) (n := n) (fr := fr) (r := 32 * d + k) (by omega) hb2.1 (fun j a b => by
        rcases Nat.lt_or_ge j (32 * d) with h1 | h1
        · exact HLOW.out j a h1
        · have h4 := HBIT.out (j - 32 * d) (by omega)
          rw [hk3 (j - 32 * d) (by omega), show 32 * d + (j - 32 * d) = j from by omega] at h4
          simpa [a] using h4.symm) hb2.2)
      clear hb hb2 hk2 hk3
      by_cases hgt : n < 32 * d + k
      · have hgt' : (n : Int) < (d : Int) * 32 + (k : Int) := by omega
        rw [if_pos hgt] at HN
        go_wp2_with fail
        refine tz.mono ?_
        rintro e w1 ⟨rfl, rfl⟩
        go_wp2_with fail
        go_ret
        exact ⟨n, rfl, HN.out, rfl⟩
      · have hgt' : ¬ (n : Int) < (d : Int) * 32 + (k : Int) := by omega
        rw [if_neg hgt] at HN
        go_wp2_with fail
        refine tz.mono ?_
        rintro e w1 ⟨rfl, rfl⟩
        go_wp2_with fail
        go_ret
        exact ⟨32 * d + k, congrArg (fun z => Ending.returned (.int .i64 z)) (show (d : Int) * 32 + (k : Int) = ((32 * d + k : Nat) : Int) from by omega), HN.out, rfl⟩
theorem not_bit (v j : Nat) (hv : v < 4294967296) (hj : j < 32) : (2 ^ 32 - (v + 1)).testBit j = !v.testBit j := by
  rw [Nat.testBit_two_pow_sub_succ (by omega)]
  simp [hj]
theorem not_nat (v : Nat) (hv : v < 4294967296) : bits .xor .u32 IntKind.u32.max (v : Int) = ((2 ^ 32 - (v + 1) : Nat) : Int) := by
  have h := u32_xor_nat (2 ^ 32 - 1) v (by decide) hv
  have e : (2 ^ 32 - 1) ^^^ v = 2 ^ 32 - (v + 1) := by
    apply Nat.eq_of_testBit_eq
    intro i
    rw [Nat.testBit_xor, Nat.testBit_two_pow_sub_one, Nat.testBit_two_pow_sub_succ (by omega)]
    by_cases hi : i < 32
    · simp [hi]
    · have : v.testBit i = false := Nat.testBit_lt_two_pow (Nat.lt_of_lt_of_le hv (show 2 ^ 32 ≤ 2 ^ i from Nat.pow_le_pow_right (by omega) (by omega)))
      simp [hi, this]
  rw [e] at h
  exact h

set_option maxRecDepth 20000 in
set_option maxHeartbeats 4000000 in
theorem nextUnset (q g n nw fr : Nat) (ws : List Nat) (B : Nat → Bool) (w : World) (h : IsBA w q g n nw ws B) (hT : Tab w) (hfr : fr ≤ 65535) (hnw : nw ≤ 7) :
    Calls Tryd.prog 9 #[.pointer (some ⟨q, 0, none⟩), .int .i64 fr] w (NextOut (fun i => !B i) n fr w) := by
  obtain ⟨c0, c1⟩ := h.facts
  have HM := hid h
  have HT := hid hT
  by_cases hge : n ≤ fr
  · have hge' : (n : Int) ≤ (fr : Int) := by omega
    clear h hT
    go_enter Tryd.func9, Tryd.ntmps9
    go_wp2
    go_ret
    exact ⟨n, rfl, .inl ⟨hge, rfl⟩, rfl⟩
  have hge' : ¬ (n : Int) ≤ (fr : Int) := by omega
  have hwr := h.wr
  have hrw := h.rw_
  have hk : fr / 32 < nw := by omega
  have e3 : (fr : Int) / 32 = ((fr / 32 : Nat) : Int) := by omega
  have e4 : bits .and .i64 (fr : Int) 31 = ((fr % 32 : Nat) : Int) := by
    have := i64_and fr 31 (by omega) (by omega)
    rw [show fr &&& 31 = fr % 32 from Nat.and_two_pow_sub_one_eq_mod fr 5] at this
    exact this
  have c4 := u32s_at h.bits (fr / 32) (by rw [h.sh.len, Nat.mul_one]; exact hk)
  have hm : fr % 32 < 32 := Nat.mod_lt _ (by omega)
  have hx := not_nat (ws.getD (fr / 32) 0) (h.sh.lt _)
  have hmk := mask_nat (2 ^ 32 - (ws.getD (fr / 32) 0 + 1)) (fr % 32) (Nat.sub_lt (by decide) (by omega)) hm
  have hbit : ∀ j, j < 32 → ((2 ^ 32 - (ws.getD (fr / 32) 0 + 1)) &&& (2 ^ 32 - 2 ^ (fr % 32))).testBit j = (decide (fr ≤ 32 * (fr / 32) + j) && !B (32 * (fr / 32) + j)) := by
    intro j hj
    rw [Nat.testBit_and, high_bit _ _ hm hj]
    have := h.sh.at1 (x := 32 * (fr / 32) + j) (by omega)
    rw [show (32 * (fr / 32) + j) / 32 = fr / 32 from by omega, show (32 * (fr / 32) + j) % 32 = j from by omega] at this
    rw [not_bit _ j (h.sh.lt _) hj, this, Bool.and_comm]
    congr 1
    exact decide_eq_decide.2 (by omega)
  have hlt : ((2 ^ 32 - (ws.getD (fr / 32) 0 + 1)) &&& (2 ^ 32 - 2 ^ (fr % 32))) < 4294967296 := Nat.and_lt_two_pow (n := 32) _ (Nat.sub_lt (by decide) (Nat.two_pow_pos _))
  have hlow : ∀ j, fr ≤ j → j < 32 * (fr / 32) → (!B j) = false := fun j a b => by omega
  generalize hd0 : fr / 32 = d0 at *
  generalize hm0 : fr % 32 = m0 at *
  generalize (2 ^ 32 - (ws.getD d0 0 + 1)) &&& (2 ^ 32 - 2 ^ m0) = cb0 at *
  generalize 2 ^ 32 - (ws.getD d0 0 + 1) = wx at *
  generalize ws.getD d0 0 = wd at *
  have HBIT := hid hbit
  have HLOW := hid hlow
  have i1 : (d0 : Int) < (nw : Int) := by omega
  clear h hT hbit hlow
  go_enter Tryd.func9, Tryd.ntmps9
  go_wp2
  go_loopw [5, 6] (fun dv cv wr => ∃ d cb : Nat, d < nw ∧ fr < 32 * (d + 1) ∧ dv = .int .i64 (d : Nat) ∧ cv = .int .u32 (cb : Nat) ∧ cb < 4294967296 ∧ Hid (∀ j, j < 32 → cb.testBit j = (decide (fr ≤ 32 * d + j) && !B (32 * d + j))) ∧ Hid (∀ j, fr ≤ j → j < 32 * d → (!B j) = false) ∧ w = wr) (fun dv _ _ => nw - (intOf dv).toNat)
  case atStart => exact ⟨d0, cb0, hk, by omega, rfl, rfl, hlt, HBIT, HLOW, rfl⟩
  case round =>
    clear HBIT HLOW c4 hmk hlt i1
    obtain ⟨d, cb, hd, hfd, rfl, rfl, hcb, HBIT, HLOW, rfl⟩ := hrel
    by_cases h0 : cb = 0
    · subst h0
      have HZ : Hid (∀ j, fr ≤ j → j < 32 * (d + 1) → (!B j) = false) := hid (fun j a b => by
        rcases Nat.lt_or_ge j (32 * d) with h1 | h1
        · exact HLOW.out j a h1
        · have := HBIT.out (j - 32 * d) (by omega)
          rw [show 32 * d + (j - 32 * d) = j from by omega, Nat.zero_testBit] at this
          simpa [a] using this)
      by_cases hdn : d + 1 = nw
      · have hdn' : (d : Int) + 1 = (nw : Int) := by omega
        clear hdn
        go_wp2
        go_ret
        refine ⟨n, rfl, .inr ⟨by omega, by omega, Nat.le_refl _, fun j a b => HZ.out j a (by omega), fun hh => absurd hh (by omega)⟩, rfl⟩
      · have hdn' : ¬ (d : Int) + 1 = (nw : Int) := by omega
        have c5 := u32s_at HM.out.bits (d + 1) (by rw [HM.out.sh.len, Nat.mul_one]; omega)
        have hx5 := not_nat (ws.getD (d + 1) 0) (HM.out.sh.lt (d + 1))
        have hl5 : 2 ^ 32 - (ws.getD (d + 1) 0 + 1) < 4294967296 := Nat.sub_lt (by decide) (by omega)
        have HB5 := hid (fun j (hj : j < 32) => show (2 ^ 32 - (ws.getD (d + 1) 0 + 1)).testBit j = (decide (fr ≤ 32 * (d + 1) + j) && !B (32 * (d + 1) + j)) from by
          have := HM.out.sh.at1 (x := 32 * (d + 1) + j) (by omega)
          rw [show (32 * (d + 1) + j) / 32 = d + 1 from by omega, show (32 * (d + 1) + j) % 32 = j from by omega] at this
          rw [not_bit _ j (HM.out.sh.lt _) hj, this, decide_eq_true (by omega), Bool.true_and])
        generalize 2 ^ 32 - (ws.getD (d + 1) 0 + 1) = wx5 at *
        generalize ws.getD (d + 1) 0 = wd5 at *
        have e5 : (d : Int) + 1 = ((d + 1 : Nat) : Int) := by omega
        have e6 : ((d + 1 : Nat) : Int) < (nw : Int) := by omega
        generalize hd5 : d + 1 = d5 at *
        go_wp2
        go_roundw
        case rel => exact ⟨d5, wx5, by omega, by omega, rfl, rfl, hl5, HB5, hid (fun j a b => HZ.out j a (by omega)), by first | rfl | trivial⟩
        case measure => simp [intOf]; omega
    · obtain ⟨k, hk1, hk2, hk3⟩ := low_some cb hcb h0
      have tz := tz32 cb k w HT.out hcb hk1 hk2 hk3
      have hb := HBIT.out k hk1
      rw [hk2] at hb
      have hb2 : fr ≤ 32 * d + k ∧ (!B (32 * d + k)) = true := by
        have := hb.symm
        rwa [Bool.and_eq_true, decide_eq_true_eq] at this
      have HN := hid (next_ext (C := fun i => !B i) (n := n) (fr := fr) (r := 32 * d + k) (by omega) hb2.1 (fun j a b => by
        rcases Nat.lt_or_ge j (32 * d) with h1 | h1
        · exact HLOW.out j a h1
        · have h4 := HBIT.out (j - 32 * d) (by omega)
          rw [hk3 (j - 32 * d) (by omega), show 32 * d + (j - 32 * d) = j from by omega] at h4
          simpa [a] using h4.symm) hb2.2)
      clear hb hb2 hk2 hk3
      by_cases hgt : n < 32 * d + k
      · have hgt' : (n : Int) < (d : Int) * 32 + (k : Int) := by omega
        rw [if_pos hgt] at HN
        go_wp2_with fail
        refine tz.mono ?_
        rintro e w1 ⟨rfl, rfl⟩
        go_wp2_with fail
        go_ret
        exact ⟨n, rfl, HN.out, rfl⟩
      · have hgt' : ¬ (n : Int) < (d : Int) * 32 + (k : Int) := by omega
        rw [if_neg hgt] at HN
        go_wp2_with fail
        refine tz.mono ?_
        rintro e w1 ⟨rfl, rfl⟩
        go_wp2_with fail
        go_ret
        exact ⟨32 * d + k, congrArg (fun z => Ending.returned (.int .i64 z)) (show (d : Int) * 32 + (k : Int) = ((32 * d + k : Nat) : Int) from by omega), HN.out, rfl⟩
end Go.Proofs.YtmaghlckgfihcaaDoor
