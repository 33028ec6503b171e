/- The reference's powers, inverses, sums and zeros. -/
import Derived.Test.YtpkmknbmjlnkgaaRootL
import Derived.Test.YtpkmknbmjlnkgaaEncW
namespace Go.Proofs.Ytpkmknbmjlnkgaa
open Go.RowKit
set_option linter.unusedVariables false

section
variable {p m : Nat}
theorem two_lt (h : IsGF p m) : 2 < 2 ^ m := Nat.lt_of_lt_of_le (by decide) (Nat.pow_le_pow_right (n := 2) (by omega) h.pos)
theorem ex_one (h : IsGF p m) : ex p m 1 = 2 := by
  show mx p m 1 = 2
  unfold mx
  rw [if_neg (by have := two_lt h; omega)]
theorem pow2_ex (h : IsGF p m) : ∀ n, powTo p m 2 n = ex p m n
  | 0 => rfl
  | n + 1 => by
    show gm p m (powTo p m 2 n) 2 = _
    rw [pow2_ex h n, ← ex_one h, gm_exex h]
theorem inv_unique (h : IsGF p m) {a b : Nat} (h0 : 0 < a) (ha : a < 2 ^ m) (hb : b < 2 ^ m) (he : gm p m a b = 1) : b = inv p m a := by
  have h2 : gm p m a (b ^^^ inv p m a) = 0 := by rw [gm_right h ha, he, gm_inv h h0 ha, Nat.xor_self]
  rcases gm_eq_zero h ha (Nat.xor_lt_two_pow hb (inv_lt h a)) h2 with h3 | h3
  · omega
  · exact xor_zero_iff h3
end

set_option maxHeartbeats 1000000 in
theorem rsPower (p m N base n : Nat) (w : World) (h : IsGF p m) (hN : Hid (N = 2 ^ m)) (hn : n ≤ 1000) :
    Calls Try.prog 58 #[fieldVal p N base, .int .i64 n] w (ValOut (.int .i64 (ex p m n : Nat)) w) := by
  have hN1 : N ≤ 4096 := by rw [hN.out]; exact Nat.pow_le_pow_right (n := 2) (by omega) h.small
  have h2 : 2 < N := by rw [hN.out]; exact two_lt h
  have HE := hid (pow2_ex h n)
  have H := hid h
  have A0 := Arr.of_new w 23 #[.int .i64 p, .int .i64 N, .int .i64 base]
  have B0 : Below w.heap.size w (w.alloc (.cells #[.int .i64 p, .int .i64 N, .int .i64 base] 23)) := (Below.refl _ _).alloc (Nat.le_refl _) _
  unfold fieldVal
  go_enter Try.func58, Try.ntmps58
  go_wp2
  generalize w.alloc (.cells #[.int .i64 p, .int .i64 N, .int .i64 base] 23) = w1 at *
  go_loopw [5, 6] (fun out i wr => ∃ k : Nat, k ≤ n ∧ i = .int .i64 k ∧ out = .int .i64 (powTo p m 2 k : Nat) ∧ Arr wr w.heap.size 23 [.int .i64 p, .int .i64 N, .int .i64 base] ∧ Below w.heap.size w wr) (fun _ i _ => n - (intOf i).toNat)
  case atStart => exact ⟨0, by omega, rfl, rfl, A0, B0⟩
  case round =>
    clear A0 B0
    obtain ⟨k, hk, rfl, rfl, hA, hB⟩ := hrel
    by_cases hlt : k < n
    · have hlt' : (k : Int) < (n : Int) := by omega
      have hp := powTo_lt H.out (p := p) (m := m) (x := 2) k
      rw [← hN.out] at hp
      have ct := fun W => rsTimes p m N base (powTo p m 2 k) 2 W H.out hN hp h2
      have HS := hid (show powTo p m 2 (k + 1) = gm p m (powTo p m 2 k) 2 from rfl)
      have d0 := hA.cell? 0
      have d1 := hA.cell? 1
      have d2 := hA.cell? 2
      try simp only at d0 d1 d2
      generalize gm p m (powTo p m 2 k) 2 = s at *
      generalize powTo p m 2 k = y at *
      have HA := hid hA
      have HB := hid hB
      unfold fieldVal at *
      clear hA hB
      go_wp2_with fail
      refine (ct _).mono ?_
      rintro e w5 ⟨rfl, hb5⟩
      go_wp2_with fail
      go_roundw
      case rel => exact ⟨k + 1, by omega, by go_num, by rw [HS.out], HA.out.below hb5 HA.out.lt, HB.out.trans (hb5.mono HB.out.size)⟩
      case measure => simp [intOf]; omega
    · obtain rfl : k = n := by omega
      rw [HE.out]
      have HB := hid hB
      clear hA hB
      go_wp2_with fail
      go_ret
      exact ⟨rfl, HB.out⟩

set_option maxHeartbeats 1000000 in
theorem rsInverse (p m N base a : Nat) (w : World) (h : IsGF p m) (hN : Hid (N = 2 ^ m)) (h0 : 0 < a) (ha : a < N) :
    Calls Try.prog 55 #[fieldVal p N base, .int .i64 a] w (ValOut (.int .i64 (inv p m a : Nat)) w) := by
  have hN1 : N ≤ 4096 := by rw [hN.out]; exact Nat.pow_le_pow_right (n := 2) (by omega) h.small
  have hi1 := inv_lt h a
  rw [← hN.out] at hi1
  have hi2 := inv_pos h a
  have HU := hid (fun b hb he => inv_unique h h0 (by rw [← hN.out]; exact ha) (b := b) hb he)
  have HI := hid (gm_inv h h0 (by rw [← hN.out]; exact ha))
  have H := hid h
  have A0 := Arr.of_new w 23 #[.int .i64 p, .int .i64 N, .int .i64 base]
  have B0 : Below w.heap.size w (w.alloc (.cells #[.int .i64 p, .int .i64 N, .int .i64 base] 23)) := (Below.refl _ _).alloc (Nat.le_refl _) _
  generalize inv p m a = v at *
  clear h
  unfold fieldVal
  go_enter Try.func55, Try.ntmps55
  go_wp2
  generalize w.alloc (.cells #[.int .i64 p, .int .i64 N, .int .i64 base] 23) = w1 at *
  go_loopw [5] (fun i wr => ∃ k : Nat, 1 ≤ k ∧ k ≤ v ∧ i = .int .i64 k ∧ Arr wr w.heap.size 23 [.int .i64 p, .int .i64 N, .int .i64 base] ∧ Below w.heap.size w wr) (fun i _ => v - (intOf i).toNat)
  case atStart => exact ⟨1, by omega, by omega, rfl, A0, B0⟩
  case round =>
    clear A0 B0
    obtain ⟨k, hk1, hk, rfl, hA, hB⟩ := hrel
    have hlt' : (k : Int) < (N : Int) := by omega
    have hkN : k < N := by omega
    have ct := fun W => rsTimes p m N base a k W H.out hN ha hkN
    have d0 := hA.cell? 0
    have d1 := hA.cell? 1
    have d2 := hA.cell? 2
    try simp only at d0 d1 d2
    have HA := hid hA
    have HB := hid hB
    unfold fieldVal at *
    clear hA hB
    by_cases he : gm p m a k = 1
    · have hkv : k = v := HU.out k (by rw [← hN.out]; exact hkN) he
      rw [he] at ct
      subst hkv
      go_wp2_with fail
      refine (ct _).mono ?_
      rintro e w5 ⟨rfl, hb5⟩
      have HB5 := hid (HB.out.trans (hb5.mono HB.out.size))
      clear hb5
      go_wp2_with fail
      go_ret
      exact ⟨rfl, HB5.out⟩
    · have hne : k ≠ v := fun e => he (by rw [e]; exact HI.out)
      have hf : ((((gm p m a k : Nat) : Int)) == 1) = false := by rw [beq_eq_false_iff_ne]; omega
      generalize gm p m a k = s at *
      clear he
      go_wp2_with fail
      refine (ct _).mono ?_
      rintro e w5 ⟨rfl, hb5⟩
      go_wp2_with fail
      go_roundw
      case rel => exact ⟨k + 1, by omega, by omega, by go_num, HA.out.below hb5 HA.out.lt, HB.out.trans (hb5.mono HB.out.size)⟩
      case measure => simp [intOf]; omega

theorem rsZeroT (A : Option Addr) (c : Nat) (w : World) (hR : Rd w A 1 (ints [0])) :
    Calls Try.prog 56 #[.slice A 1 c] w (SameOut (.bool true) w) := by
  obtain ⟨b, o, rfl, _, hc⟩ := rd_int hR 0 (by omega)
  rw [Nat.add_zero] at hc
  simp only [List.getD_cons_zero, Int.natCast_zero] at hc
  clear hR
  go_enter Try.func56, Try.ntmps56
  go_wp2
  go_ret
  exact ⟨rfl, rfl⟩
theorem rsZeroF (A : Option Addr) (n c : Nat) (l : List Nat) (w : World) (hR : Rd w A n (ints l)) (hn : 1 ≤ n) (hn2 : n ≤ 100000) (h0 : l.getD 0 0 ≠ 0) :
    Calls Try.prog 56 #[.slice A n c] w (SameOut (.bool false) w) := by
  obtain ⟨b, o, rfl, _, hc⟩ := rd_int hR 0 (by omega)
  rw [Nat.add_zero] at hc
  have hz : (((l.getD 0 0 : Nat) : Int) == 0) = false := by rw [beq_eq_false_iff_ne]; omega
  generalize l.getD 0 0 = y at *
  clear hR h0
  by_cases h1 : n = 1
  · subst h1
    go_enter Try.func56, Try.ntmps56
    go_wp2
    go_ret
    exact ⟨rfl, rfl⟩
  · have h1' : ((n : Int) == 1) = false := by rw [beq_eq_false_iff_ne]; omega
    clear h1
    go_enter Try.func56, Try.ntmps56
    go_wp2
    go_ret
    exact ⟨rfl, rfl⟩
end Go.Proofs.Ytpkmknbmjlnkgaa
