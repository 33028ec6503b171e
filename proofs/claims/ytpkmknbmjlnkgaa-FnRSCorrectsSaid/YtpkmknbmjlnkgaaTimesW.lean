/- The walks of the elements of a field and of the reference's product. -/
import Derived.Test.YtpkmknbmjlnkgaaWhichW
namespace Go.Proofs.Ytpkmknbmjlnkgaa
open Go.RowKit
set_option linter.unusedVariables false

/-- The number that an int says in a field of so many elements. -/
def elemOf (N : Nat) (n : Int) : Nat := (n % (N : Int)).toNat
theorem elemOf_lt (N : Nat) (n : Int) (h : 0 < N) : elemOf N n < N := by
  unfold elemOf
  have h1 := Int.emod_nonneg n (b := (N : Int)) (by omega)
  have h2 := Int.emod_lt_of_pos n (b := (N : Int)) (by omega)
  omega
theorem tmod_or (N : Nat) (n : Int) (h : 0 < N) : n.tmod N = n % (N : Int) ∨ n.tmod N = n % (N : Int) - N := by
  rw [Int.tmod_eq_emod]
  split
  · left; omega
  · right; simp
theorem elemOf_tmod (N : Nat) (n : Int) (h : 0 < N) : ((elemOf N n : Nat) : Int) = if n.tmod N < 0 then n.tmod N + N else n.tmod N := by
  unfold elemOf
  have h1 := Int.emod_nonneg n (b := (N : Int)) (by omega)
  have h2 := Int.emod_lt_of_pos n (b := (N : Int)) (by omega)
  have h3 := tmod_or N n h
  split <;> omega
theorem tmod_bd (N : Nat) (n : Int) (h : 0 < N) : -(N : Int) ≤ n.tmod N ∧ n.tmod N < N := by
  have h1 := Int.emod_nonneg n (b := (N : Int)) (by omega)
  have h2 := Int.emod_lt_of_pos n (b := (N : Int)) (by omega)
  have h3 := tmod_or N n h
  omega

set_option maxHeartbeats 1000000 in
theorem rsElement (p N base : Nat) (n : Int) (w : World) (hN0 : 0 < N) (hN : N ≤ 65536) (h0 : -9223372036854775808 ≤ n) (h1 : n ≤ 9223372036854775807) :
    Calls Try.prog 11 #[fieldVal p N base, .int .i64 n] w (ValOut (.int .i64 (elemOf N n : Nat)) w) := by
  unfold fieldVal
  have HE := hid (elemOf_tmod N n hN0)
  obtain ⟨hb1, hb2⟩ := tmod_bd N n hN0
  by_cases ht : n.tmod N < 0
  · have HE' := HE.out
    rw [if_pos ht] at HE'
    have HF := hid HE'
    clear HE HE'
    go_enter Try.func11, Try.ntmps11
    go_wp2
    go_ret
    exact ⟨by rw [HF.out]; rfl, (Below.refl _ _).alloc (Nat.le_refl _) _⟩
  · have HE' := HE.out
    rw [if_neg ht] at HE'
    have HF := hid HE'
    clear HE HE'
    go_enter Try.func11, Try.ntmps11
    go_wp2
    go_ret
    exact ⟨by rw [HF.out]; rfl, (Below.refl _ _).alloc (Nat.le_refl _) _⟩

theorem div_half (N k : Nat) : N / 2 ^ (k + 1) / 2 = N / 2 ^ (k + 2) := by
  rw [Nat.div_div_eq_div_mul, show k + 2 = k + 1 + 1 from rfl, Nat.pow_succ 2 (k + 1)]
theorem pow_div (m k : Nat) (h : k < m) : 2 ^ m / 2 ^ (k + 1) = 2 ^ (m - 1 - k) := by
  rw [Nat.pow_div (by omega) (by omega)]; congr 1; omega

set_option maxHeartbeats 1000000 in
theorem rsTimes (p m N base a b : Nat) (w : World) (h : IsGF p m) (hN : Hid (N = 2 ^ m)) (ha : a < N) (hb : b < N) :
    Calls Try.prog 13 #[fieldVal p N base, .int .i64 a, .int .i64 b] w (ValOut (.int .i64 (gm p m a b : Nat)) w) := by
  have hN1 : N ≤ 4096 := by rw [hN.out]; exact Nat.pow_le_pow_right (n := 2) (by omega) h.small
  have hN0 : 4 ≤ N := by rw [hN.out]; exact Nat.pow_le_pow_right (n := 2) (by omega) h.pos
  have hp : p < 8192 := Nat.lt_of_lt_of_le h.high (show 2 ^ (m + 1) ≤ 2 ^ 13 from Nat.pow_le_pow_right (by omega) (by have := h.small; omega))
  have H := hid h
  clear h
  unfold fieldVal
  go_enter Try.func13, Try.ntmps13
  go_wp2
  have A0 := Arr.of_new w 23 #[.int .i64 p, .int .i64 N, .int .i64 base]
  have B0 : Below w.heap.size w (w.alloc (.cells #[.int .i64 p, .int .i64 N, .int .i64 base] 23)) := (Below.refl _ _).alloc (Nat.le_refl _) _
  have c0 := A0.cell? 0
  have c1 := A0.cell? 1
  simp only at c0 c1
  generalize w.alloc (.cells #[.int .i64 p, .int .i64 N, .int .i64 base] 23) = w1 at *
  clear A0
  go_loop [7, 8] (fun out bit => ∃ k : Nat, k ≤ m ∧ bit = .int .i64 (N / 2 ^ (k + 1) : Nat) ∧ out = .int .i64 (gmF p m a k (b / 2 ^ (m - k)) : Nat)) (fun _ bit => (intOf bit).toNat)
  case atStart => exact ⟨0, by omega, by simp, by simp [gmF]⟩
  case round =>
    obtain ⟨k, hk, rfl, rfl⟩ := hrel
    have HB1 := hid (div_half N k)
    by_cases hlt : k < m
    · have HB := hid (show N / 2 ^ (k + 1) = 2 ^ (m - 1 - k) by rw [hN.out]; exact pow_div m k hlt)
      have hBpos : 0 < N / 2 ^ (k + 1) := by rw [HB.out]; exact Nat.two_pow_pos _
      have hBle : N / 2 ^ (k + 1) ≤ 4096 := Nat.le_trans (Nat.div_le_self _ _) hN1
      obtain ⟨cq, hcq⟩ : ∃ cq, cq = b / 2 ^ (m - (k + 1)) := ⟨_, rfl⟩
      have HG := hid (show gmF p m a (k + 1) cq = mx p m (gmF p m a k (b / 2 ^ (m - k))) ^^^ (if cq % 2 = 1 then a else 0) by
        have : b / 2 ^ (m - k) = cq / 2 := by rw [hcq, Nat.div_div_eq_div_mul, ← Nat.pow_succ]; congr 2; omega
        rw [this]; rfl)
      have HC := hid hcq
      have hdiv : ((b : Nat) : Int) / ((N / 2 ^ (k + 1) : Nat) : Int) = (cq : Int) := by
        rw [HB.out, hcq, show m - 1 - k = m - (k + 1) from by omega]; simp
      have hcle : cq ≤ 4096 := by rw [hcq]; exact Nat.le_trans (Nat.div_le_self _ _) (by omega)
      have hg := gmF_lt H.out (a := a) (by rw [← hN.out]; exact ha) k (b / 2 ^ (m - k))
      rw [← hN.out] at hg
      have hm := mx_lt H.out (by rw [← hN.out]; exact hg)
      rw [← hN.out] at hm
      have HM := hid (show mx p m (gmF p m a k (b / 2 ^ (m - k))) = if N ≤ 2 * gmF p m a k (b / 2 ^ (m - k)) then (2 * gmF p m a k (b / 2 ^ (m - k))) ^^^ p else 2 * gmF p m a k (b / 2 ^ (m - k)) by rw [hN.out]; rfl)
      clear hcq
      generalize gmF p m a k (b / 2 ^ (m - k)) = x at *
      generalize N / 2 ^ (k + 1) = bit at *
      have hbit : (0 : Int) < (bit : Int) := by omega
      have ax : ∀ y : Nat, y < N → bits .xor .i64 (y : Int) (a : Int) = ((y ^^^ a : Nat) : Int) := fun y hy => i64_xor y a (by omega) (by omega)
      by_cases hge : N ≤ 2 * x
      · have hge' : (N : Int) ≤ (x : Int) * 2 := by omega
        have hxor : bits .xor .i64 ((x : Int) * 2) (p : Int) = ((2 * x ^^^ p : Nat) : Int) := by
          rw [← i64_xor (2 * x) p (by omega) (by omega)]; congr 1; omega
        have HM1 := HM.out
        rw [if_pos hge] at HM1
        rw [HM1] at hm HG
        have HM2 := hid HM1
        have hax := ax _ hm
        clear HM1 ax
        generalize 2 * x ^^^ p = y at *
        by_cases h2 : cq % 2 = 1
        · have h2' : (((cq : Nat) : Int) % 2 == 1) = true := by rw [beq_iff_eq]; omega
          have HG1 := HG.out
          rw [if_pos h2] at HG1
          have HG2 := hid HG1
          clear HG HG1 h2
          go_wp2
          go_round
          case rel => exact ⟨k + 1, by omega, by rw [← HB1.out]; go_num, by rw [← HC.out, HG2.out]⟩
          case measure => simp [intOf]; omega
        · have h2' : (((cq : Nat) : Int) % 2 == 1) = false := by rw [beq_eq_false_iff_ne]; omega
          have HG1 := HG.out
          rw [if_neg h2, Nat.xor_zero] at HG1
          have HG2 := hid HG1
          clear HG HG1 h2
          go_wp2
          go_round
          case rel => exact ⟨k + 1, by omega, by rw [← HB1.out]; go_num, by rw [← HC.out, HG2.out]⟩
          case measure => simp [intOf]; omega
      · have hge' : ¬ (N : Int) ≤ (x : Int) * 2 := by omega
        have HM1 := HM.out
        rw [if_neg hge] at HM1
        rw [HM1] at hm HG
        have hax := ax _ hm
        rw [show ((2 * x : Nat) : Int) = (x : Int) * 2 from by omega] at hax
        clear HM1 ax HM
        by_cases h2 : cq % 2 = 1
        · have h2' : (((cq : Nat) : Int) % 2 == 1) = true := by rw [beq_iff_eq]; omega
          have HG1 := HG.out
          rw [if_pos h2] at HG1
          have HG2 := hid HG1
          clear HG HG1 h2
          go_wp2
          go_round
          case rel => exact ⟨k + 1, by omega, by rw [← HB1.out]; go_num, by (rw [← HC.out, HG2.out]) <;> go_num⟩
          case measure => simp [intOf]; omega
        · have h2' : (((cq : Nat) : Int) % 2 == 1) = false := by rw [beq_eq_false_iff_ne]; omega
          have HG1 := HG.out
          rw [if_neg h2, Nat.xor_zero] at HG1
          have HG2 := hid HG1
          clear HG HG1 h2
          go_wp2
          go_round
          case rel => exact ⟨k + 1, by omega, by rw [← HB1.out]; go_num, by (rw [← HC.out, HG2.out]) <;> go_num⟩
          case measure => simp [intOf]; omega
    · obtain rfl : k = m := by omega
      have hz : N / 2 ^ (k + 1) = 0 := by rw [hN.out]; exact Nat.div_eq_of_lt (Nat.pow_lt_pow_right (by omega) (by omega))
      have HZ := hid (show gmF p k a k (b / 2 ^ (k - k)) = gm p k a b by simp [gm])
      rw [hz]
      go_wp2
      go_ret
      exact ⟨rfl, B0⟩

/-! ### impl.FieldTimes, and sums -/
set_option maxHeartbeats 400000 in
theorem implField (p m N base : Nat) (w : World) (h : IsGF p m) (hN : Hid (N = 2 ^ m)) (hb : base ≤ 1) :
    Calls Try.prog 30 #[fieldVal p N base] w (FieldOut p m base w) := by
  unfold fieldVal
  go_enter Try.func30, Try.ntmps30
  go_wp2_with fail
  refine (newField p m N base _ h hN hb).mono ?_
  rintro e w1 ⟨g, rfl, hg, hF, hB⟩
  unfold fieldPtr
  go_wp2_with fail
  go_ret
  have e0 : w.heap.size ≤ (w.alloc (.cells #[.int .i64 p, .int .i64 N, .int .i64 base] 23)).heap.size := by simp
  exact ⟨g, rfl, Nat.le_trans e0 hg, hF, ((Below.refl _ _).alloc (Nat.le_refl _) _).trans (hB.mono e0)⟩

set_option maxHeartbeats 400000 in
theorem fieldTimes (p m N base a b : Nat) (w : World) (h : IsGF p m) (hN : Hid (N = 2 ^ m)) (hb1 : base ≤ 1) (ha : a < N) (hb : b < N) :
    Calls Try.prog 12 #[fieldVal p N base, .int .i64 a, .int .i64 b] w (ValOut (.int .i64 (gm p m a b : Nat)) w) := by
  unfold fieldVal
  go_enter Try.func12, Try.ntmps12
  go_wp2_with fail
  refine (implField p m N base _ h hN hb1).mono ?_
  rintro e w1 ⟨g, rfl, hg, hF, hB⟩
  unfold fieldPtr
  have HF := hid hF
  clear hF
  go_wp2_with fail
  refine (multiply g p m base a b w1 h HF.out (by rw [← hN.out]; exact ha) (by rw [← hN.out]; exact hb)).mono ?_
  rintro e w2 ⟨rfl, nq, rfl⟩
  go_wp2_with fail
  go_ret
  have e0 : w.heap.size ≤ (w.alloc (.cells #[.int .i64 p, .int .i64 N, .int .i64 base] 23)).heap.size := by simp
  exact ⟨rfl, below_drewN (((Below.refl _ _).alloc (Nat.le_refl _) _).trans (hB.mono e0)) _⟩
end Go.Proofs.Ytpkmknbmjlnkgaa
