/- spec.dmSixes. -/
import Derived.Test.YtfmjkflihnfneaaDoorDnF
import Derived.Test.YtfmjkflihnfneaaDoorDnR
namespace Go.Proofs.YtfmjkflihnfneaaDoor
open Go.RowKit
set_option linter.unusedVariables false
set_option linter.unusedSimpArgs false

theorem six_step0 (v : Nat → Nat) (i b : Nat) (out : List Nat) (h : sixTo v i = (b, 0, out)) : sixTo v (i + 1) = (64 * b + v i, 6, out) := by
  rw [sixTo, h]; simp
theorem six_step (v : Nat → Nat) (i b m : Nat) (out : List Nat) (h : sixTo v i = (b, m + 2, out)) : sixTo v (i + 1) = ((64 * b + v i) % 2 ^ m, m, out ++ [(64 * b + v i) / 2 ^ m]) := by
  rw [sixTo, h]; simp
theorem or_six (b v : Nat) (hb : b < 64) (hv : v < 64) : bits .or .i64 ((b : Int) * 64) (v : Int) = ((64 * b + v : Nat) : Int) := by
  have h1 : ((b : Int) * 64) = ((b * 64 : Nat) : Int) := by omega
  have h2 := or_low b v 6 (by omega)
  rw [h1, i64_or _ _ (by omega) (by omega), show b * 64 = b * 2 ^ 6 from rfl, h2, show b * 2 ^ 6 + v = 64 * b + v from by omega]
theorem and_low (X m : Nat) (hX : X < 4096) (hm : m ≤ 4) : bits .and .i64 (X : Int) ((2 ^ m - 1 : Nat) : Int) = ((X % 2 ^ m : Nat) : Int) := by
  have h := Nat.and_two_pow_sub_one_eq_mod X m
  have h2 : 2 ^ m ≤ 16 := Nat.le_trans (Nat.pow_le_pow_right (by omega) hm) (by omega)
  rw [i64_and _ _ (by omega) (by omega), h]
theorem and_63 (c : Nat) (hc : c < 256) : bits .and .i64 (c : Int) 63 = ((c % 64 : Nat) : Int) := by
  have h := Nat.and_two_pow_sub_one_eq_mod c 6
  rw [show (63 : Int) = ((63 : Nat) : Int) from rfl, i64_and _ _ (by omega) (by omega)]
  exact congrArg _ h

set_option maxRecDepth 20000 in
set_option maxHeartbeats 4000000 in
theorem sixesM (s : List Nat) (h256 : ∀ c ∈ s, c < 256) (hl : s.length ≤ 1600) (w : World) : Calls Tryd.prog 21 #[.string (strOf s)] w (BytesNew (sixW s) w) := by
  obtain ⟨i5, hi, hz0, hz1, hz2⟩ := info_of info5
  have hsz := strOf_size s
  have HAT := hid (fun i hi => str_at s h256 i hi)
  have HGL := hid (fun i => getD_lt s h256 i)
  obtain ⟨st, hst⟩ : ∃ st, st = strOf s := ⟨_, rfl⟩
  rw [← hst] at hsz HAT ⊢
  obtain ⟨N, hN⟩ : ∃ N, N = s.length := ⟨_, rfl⟩
  rw [← hN] at hsz hl
  obtain ⟨f, hf⟩ : ∃ f, f = sixV s := ⟨_, rfl⟩
  have HF1 := hid (fun i (h : i < N) => show f i = s.getD i 0 % 64 from by rw [hf, sixV, if_pos (by omega)])
  have HF2 := hid (show f N = 31 from by rw [hf, sixV, if_neg (by omega)])
  have HFL := hid (fun i => show f i < 64 from by rw [hf]; exact sixV_lt s i)
  have HR := hid (show sixW s = 240 :: sixAll f (N + 1) by rw [sixW, ← hN, ← hf])
  generalize sixW s = R at *
  clear hst hN hf h256
  have HB1 := hid ((Below.refl w.heap.size w).alloc (Nat.le_refl _) (.cells #[.int .u8 240] 5))
  have HO1 := hid (Own.lit (w := w) (B := w.heap.size) (e := 5) #[.int .u8 240] (Nat.le_refl _) (by simp [maxLen]))
  go_enter Tryd.func21, Tryd.ntmps21
  go_wp2_with fail
  go_loopg [3, 4, 5, 6] (N + 1) (fun gk ov bv nv iv wr => ∃ (i b n : Nat) (out : List Nat), i ≤ N + 1 ∧ gk = N + 1 - i ∧ bv = .int .i64 (b : Nat) ∧ nv = .int .i64 (n : Nat) ∧ iv = .int .i64 (i : Nat) ∧ Hid (sixTo f i = (b, n, out)) ∧ Hid (Own wr w.heap.size 5 ov (u8s (240 :: out))) ∧ Hid (Below w.heap.size w wr))
  case atStart => exact ⟨0, 0, 0, [], by omega, by omega, rfl, rfl, rfl, rfl, HO1, HB1⟩
  case round =>
    clear HO1 HB1
    obtain ⟨i, b, n, out, hi1, rfl, rfl, rfl, rfl, HE, HO, HB⟩ := hrel
    have hinv := six_inv f HFL.out i
    rw [HE.out] at hinv
    obtain ⟨hb1, hn1, hlen, _, _⟩ := hinv
    simp only at hb1 hn1 hlen
    by_cases hlt : i ≤ N
    case neg =>
      obtain rfl : i = N + 1 := by omega
      have hlt' : ¬ ((N + 1 : Nat) : Int) ≤ (N : Int) := by omega
      have hbs := HB.out.size
      rcases hn1 with rfl | rfl | rfl | rfl
      · have hRR := HR.out
        rw [sixAll, HE.out] at hRR
        simp at hRR
        obtain ⟨A9, c9, hv, _, _⟩ := HO.out.form
        subst hv
        go_wp2_with fail
        go_ret
        exact ⟨_, rfl, HO.out, HB.out⟩
      · have hRR := HR.out
        rw [sixAll, HE.out] at hRR
        simp at hRR
        have hXb : b < 4 := by simp at hb1; omega
        have hsz9 := hid (show (u8s (240 :: out)).length = out.length + 1 by rw [u8s_len]; rfl)
        have m1 := hid (show (u8s (240 :: out)).length + 1 ≤ maxLen by rw [hsz9.out]; simp [maxLen]; omega)
        have m2 := hid (show ((u8s (240 :: out)).length + 1) * 1 ≤ 140737488355328 by rw [hsz9.out]; omega)
        have m3 := hid HB.out.size
        have HZ := hid (show ((b : Int) * 64) = ((b * 64 : Nat) : Int) by omega)
        have HRR := hid hRR
        clear hb1 hRR
        go_wp2_with (at_builtin; refine wpList_app _ rfl _ _ 28 rfl w.heap.size 5 i5 _ 1 Tryd.underlying28 hi hz0 hz1 hz2 rfl _ (u8s (240 :: out)) rfl (HO.out.alloc _) _ 1 1 [.int .u8 ((b : Int) * 64)] rfl (Rd.one' _ _ _ _ rfl) (by intro u hu; rw [List.mem_singleton.1 hu]; rfl) m1.out m2.out (Nat.le_trans m3.out (by simp)) ?_)
        intro v5 w5 hO5 hg5 hown5
        have HO5 := hid (show Own w5 w.heap.size 5 v5 (u8s R) from by
          rw [HRR.out]
          rw [HZ.out] at hO5
          unfold u8s at hO5 ⊢; rw [← List.cons_append, List.map_append]; exact hO5)
        have HB5 := hid ((HB.out.alloc hbs (.cells #[.int .u8 ((b : Int) * 64)] 5)).grown hg5 (by simp; omega) (fun k hk => (HO.out.lt k hk).1))
        clear hO5 hg5 hown5 HO HB
        obtain ⟨A9, c9, hv, _, _⟩ := HO5.out.form
        subst hv
        go_wp2_with fail
        go_ret
        exact ⟨_, rfl, HO5.out, HB5.out⟩
      · have hRR := HR.out
        rw [sixAll, HE.out] at hRR
        simp at hRR
        have hXb : b < 16 := by simp at hb1; omega
        have hsz9 := hid (show (u8s (240 :: out)).length = out.length + 1 by rw [u8s_len]; rfl)
        have m1 := hid (show (u8s (240 :: out)).length + 1 ≤ maxLen by rw [hsz9.out]; simp [maxLen]; omega)
        have m2 := hid (show ((u8s (240 :: out)).length + 1) * 1 ≤ 140737488355328 by rw [hsz9.out]; omega)
        have m3 := hid HB.out.size
        have HZ := hid (show ((b : Int) * 16) = ((b * 16 : Nat) : Int) by omega)
        have HRR := hid hRR
        clear hb1 hRR
        go_wp2_with (at_builtin; refine wpList_app _ rfl _ _ 28 rfl w.heap.size 5 i5 _ 1 Tryd.underlying28 hi hz0 hz1 hz2 rfl _ (u8s (240 :: out)) rfl (HO.out.alloc _) _ 1 1 [.int .u8 ((b : Int) * 16)] rfl (Rd.one' _ _ _ _ rfl) (by intro u hu; rw [List.mem_singleton.1 hu]; rfl) m1.out m2.out (Nat.le_trans m3.out (by simp)) ?_)
        intro v5 w5 hO5 hg5 hown5
        have HO5 := hid (show Own w5 w.heap.size 5 v5 (u8s R) from by
          rw [HRR.out]
          rw [HZ.out] at hO5
          unfold u8s at hO5 ⊢; rw [← List.cons_append, List.map_append]; exact hO5)
        have HB5 := hid ((HB.out.alloc hbs (.cells #[.int .u8 ((b : Int) * 16)] 5)).grown hg5 (by simp; omega) (fun k hk => (HO.out.lt k hk).1))
        clear hO5 hg5 hown5 HO HB
        obtain ⟨A9, c9, hv, _, _⟩ := HO5.out.form
        subst hv
        go_wp2_with fail
        go_ret
        exact ⟨_, rfl, HO5.out, HB5.out⟩
      · have hRR := HR.out
        rw [sixAll, HE.out] at hRR
        simp at hRR
        have hXb : b < 64 := by simp at hb1; omega
        have hsz9 := hid (show (u8s (240 :: out)).length = out.length + 1 by rw [u8s_len]; rfl)
        have m1 := hid (show (u8s (240 :: out)).length + 1 ≤ maxLen by rw [hsz9.out]; simp [maxLen]; omega)
        have m2 := hid (show ((u8s (240 :: out)).length + 1) * 1 ≤ 140737488355328 by rw [hsz9.out]; omega)
        have m3 := hid HB.out.size
        have HZ := hid (show ((b : Int) * 4) = ((b * 4 : Nat) : Int) by omega)
        have HRR := hid hRR
        clear hb1 hRR
        go_wp2_with (at_builtin; refine wpList_app _ rfl _ _ 28 rfl w.heap.size 5 i5 _ 1 Tryd.underlying28 hi hz0 hz1 hz2 rfl _ (u8s (240 :: out)) rfl (HO.out.alloc _) _ 1 1 [.int .u8 ((b : Int) * 4)] rfl (Rd.one' _ _ _ _ rfl) (by intro u hu; rw [List.mem_singleton.1 hu]; rfl) m1.out m2.out (Nat.le_trans m3.out (by simp)) ?_)
        intro v5 w5 hO5 hg5 hown5
        have HO5 := hid (show Own w5 w.heap.size 5 v5 (u8s R) from by
          rw [HRR.out]
          rw [HZ.out] at hO5
          unfold u8s at hO5 ⊢; rw [← List.cons_append, List.map_append]; exact hO5)
        have HB5 := hid ((HB.out.alloc hbs (.cells #[.int .u8 ((b : Int) * 4)] 5)).grown hg5 (by simp; omega) (fun k hk => (HO.out.lt k hk).1))
        clear hO5 hg5 hown5 HO HB
        obtain ⟨A9, c9, hv, _, _⟩ := HO5.out.form
        subst hv
        go_wp2_with fail
        go_ret
        exact ⟨_, rfl, HO5.out, HB5.out⟩
    case pos =>
      have hlt' : (i : Int) ≤ (N : Int) := by omega
      have hbs := HB.out.size
      go_upto_if 18 with fail
      go_cut [7] from 9 to 45 (fun vv wx => vv = .int .i64 (f i : Nat) ∧ wr = wx)
      case first =>
        by_cases h1 : i < N
        case pos =>
          have h1' : (i : Int) < (N : Int) := by omega
          have his : i < st.size := by omega
          have hx := HAT.out i his
          have hg := HGL.out i
          have hfi := HF1.out i h1
          generalize s.getD i 0 = c at *
          have ha := and_63 c hg
          rw [← hfi] at ha
          go_wp2_with fail
          go_meet
          case rel => exact ⟨by rw [hfi]; go_num, rfl⟩
        case neg =>
          obtain rfl : i = N := by omega
          have h1' : ¬ (i : Int) < (i : Int) := by omega
          go_wp2_with fail
          go_meet
          case rel => exact ⟨by rw [HF2.out]; rfl, rfl⟩
      case rest =>
        obtain ⟨rfl, rfl⟩ := hcut
        have hfl := HFL.out i
        obtain ⟨v, hvf⟩ : ∃ v, v = f i := ⟨_, rfl⟩
        rw [← hvf] at hfl ⊢
        have hb64 : b < 64 := by rcases hn1 with h | h | h | h <;> subst h <;> simp at hb1 <;> omega
        obtain ⟨X, hX⟩ : ∃ X, X = 64 * b + v := ⟨_, rfl⟩
        have hor := or_six b v hb64 hfl
        rw [← hX] at hor
        have hXl : X < 4096 := by omega
        rcases hn1 with rfl | rfl | rfl | rfl
        · have HS := hid (six_step0 f i b out HE.out)
          rw [← hvf, ← hX] at HS
          clear hvf HE
          go_wp2_with fail
          go_loopg [3, 4, 5] 0 (fun gk ov bv nv wr => gk = 0 ∧ bv = .int .i64 (X : Nat) ∧ nv = .int .i64 6 ∧ Hid (Own wr w.heap.size 5 ov (u8s (240 :: out))) ∧ Hid (Below w.heap.size w wr))
          case atStart => exact ⟨rfl, by first | rfl | go_num, by first | rfl | go_num, HO, HB⟩
          case round =>
            clear HO HB
            obtain ⟨rfl, rfl, rfl, HO, HB⟩ := hrel
            go_wp2_with fail
            go_roundg (N + 1 - (i + 1))
            case measure => omega
            case rel => exact ⟨i + 1, X, 6, out, by omega, rfl, rfl, by first | rfl | go_num, by go_num, HS, HO, HB⟩
        · -- n = 2
          have HS := hid (six_step f i b 0 out HE.out)
          rw [← hvf, ← hX] at HS
          have hXb : X < 256 := by simp at hb1; omega
          clear hvf HE hX hb1
          have hsz9 := hid (show (u8s (240 :: out)).length = out.length + 1 by rw [u8s_len]; rfl)
          have m1 := hid (show (u8s (240 :: out)).length + 1 ≤ maxLen by rw [hsz9.out]; simp [maxLen]; omega)
          have m2 := hid (show ((u8s (240 :: out)).length + 1) * 1 ≤ 140737488355328 by rw [hsz9.out]; omega)
          have hand := and_low X 0 (by omega) (by omega)
          simp at hand
          have hZ : ((X : Int)) = ((X / 2 ^ 0 : Nat) : Int) := by omega
          have HZ := hid hZ
          clear hZ
          go_wp2_with fail
          go_loopg [3, 4, 5] 1 (fun gk ov bv nv wr => (gk = 1 ∧ bv = .int .i64 (X : Nat) ∧ nv = .int .i64 8 ∧ Hid (Own wr w.heap.size 5 ov (u8s (240 :: out))) ∧ Hid (Below w.heap.size w wr)) ∨
            (gk = 0 ∧ bv = .int .i64 (X % 2 ^ 0 : Nat) ∧ nv = .int .i64 0 ∧ Hid (Own wr w.heap.size 5 ov (u8s (240 :: (out ++ [X / 2 ^ 0])))) ∧ Hid (Below w.heap.size w wr)))
          case atStart => exact .inl ⟨rfl, by first | rfl | go_num, by first | rfl | go_num, HO, HB⟩
          case round =>
            clear HO HB
            rcases hrel with ⟨rfl, rfl, rfl, HO, HB⟩ | ⟨rfl, rfl, rfl, HO, HB⟩
            · have m3 := hid HB.out.size
              have hbs := HB.out.size
              go_wp2_with (at_builtin; refine wpList_app _ rfl _ _ 28 rfl w.heap.size 5 i5 _ 1 Tryd.underlying28 hi hz0 hz1 hz2 rfl _ (u8s (240 :: out)) rfl (HO.out.alloc _) _ 1 1 [.int .u8 ((X : Int))] rfl (Rd.one' _ _ _ _ rfl) (by intro u hu; rw [List.mem_singleton.1 hu]; rfl) m1.out m2.out (Nat.le_trans m3.out (by simp)) ?_)
              intro v5 w5 hO5 hg5 hown5
              have HO5 := hid (show Own w5 w.heap.size 5 v5 (u8s (240 :: (out ++ [X / 2 ^ 0]))) from by
                rw [HZ.out] at hO5
                unfold u8s at hO5 ⊢; rw [← List.cons_append, List.map_append]; exact hO5)
              have HB5 := hid ((HB.out.alloc hbs (.cells #[.int .u8 ((X : Int))] 5)).grown hg5 (by simp; omega) (fun k hk => (HO.out.lt k hk).1))
              clear hO5 hg5 hown5 HO HB
              go_wp2_with fail
              go_roundg 0
              case measure => omega
              case rel => exact .inr ⟨rfl, by first | rfl | go_num, by first | rfl | go_num, HO5, HB5⟩
            · go_wp2_with fail
              go_roundg (N + 1 - (i + 1))
              case measure => omega
              case rel => exact ⟨i + 1, X % 2 ^ 0, 0, out ++ [X / 2 ^ 0], by omega, rfl, by first | rfl | go_num, by first | rfl | go_num, by go_num, HS, HO, HB⟩
        · -- n = 4
          have HS := hid (six_step f i b 2 out HE.out)
          rw [← hvf, ← hX] at HS
          have hXb : X < 1024 := by simp at hb1; omega
          clear hvf HE hX hb1
          have hsz9 := hid (show (u8s (240 :: out)).length = out.length + 1 by rw [u8s_len]; rfl)
          have m1 := hid (show (u8s (240 :: out)).length + 1 ≤ maxLen by rw [hsz9.out]; simp [maxLen]; omega)
          have m2 := hid (show ((u8s (240 :: out)).length + 1) * 1 ≤ 140737488355328 by rw [hsz9.out]; omega)
          have hand := and_low X 2 (by omega) (by omega)
          simp at hand
          have hZ : ((X : Int) / 4) = ((X / 2 ^ 2 : Nat) : Int) := by omega
          have HZ := hid hZ
          clear hZ
          go_wp2_with fail
          go_loopg [3, 4, 5] 1 (fun gk ov bv nv wr => (gk = 1 ∧ bv = .int .i64 (X : Nat) ∧ nv = .int .i64 10 ∧ Hid (Own wr w.heap.size 5 ov (u8s (240 :: out))) ∧ Hid (Below w.heap.size w wr)) ∨
            (gk = 0 ∧ bv = .int .i64 (X % 2 ^ 2 : Nat) ∧ nv = .int .i64 2 ∧ Hid (Own wr w.heap.size 5 ov (u8s (240 :: (out ++ [X / 2 ^ 2])))) ∧ Hid (Below w.heap.size w wr)))
          case atStart => exact .inl ⟨rfl, by first | rfl | go_num, by first | rfl | go_num, HO, HB⟩
          case round =>
            clear HO HB
            rcases hrel with ⟨rfl, rfl, rfl, HO, HB⟩ | ⟨rfl, rfl, rfl, HO, HB⟩
            · have m3 := hid HB.out.size
              have hbs := HB.out.size
              go_wp2_with (at_builtin; refine wpList_app _ rfl _ _ 28 rfl w.heap.size 5 i5 _ 1 Tryd.underlying28 hi hz0 hz1 hz2 rfl _ (u8s (240 :: out)) rfl (HO.out.alloc _) _ 1 1 [.int .u8 ((X : Int) / 4)] rfl (Rd.one' _ _ _ _ rfl) (by intro u hu; rw [List.mem_singleton.1 hu]; rfl) m1.out m2.out (Nat.le_trans m3.out (by simp)) ?_)
              intro v5 w5 hO5 hg5 hown5
              have HO5 := hid (show Own w5 w.heap.size 5 v5 (u8s (240 :: (out ++ [X / 2 ^ 2]))) from by
                rw [HZ.out] at hO5
                unfold u8s at hO5 ⊢; rw [← List.cons_append, List.map_append]; exact hO5)
              have HB5 := hid ((HB.out.alloc hbs (.cells #[.int .u8 ((X : Int) / 4)] 5)).grown hg5 (by simp; omega) (fun k hk => (HO.out.lt k hk).1))
              clear hO5 hg5 hown5 HO HB
              go_wp2_with fail
              go_roundg 0
              case measure => omega
              case rel => exact .inr ⟨rfl, by first | rfl | go_num, by first | rfl | go_num, HO5, HB5⟩
            · go_wp2_with fail
              go_roundg (N + 1 - (i + 1))
              case measure => omega
              case rel => exact ⟨i + 1, X % 2 ^ 2, 2, out ++ [X / 2 ^ 2], by omega, rfl, by first | rfl | go_num, by first | rfl | go_num, by go_num, HS, HO, HB⟩
        · -- n = 6
          have HS := hid (six_step f i b 4 out HE.out)
          rw [← hvf, ← hX] at HS
          have hXb : X < 4096 := by simp at hb1; omega
          clear hvf HE hX hb1
          have hsz9 := hid (show (u8s (240 :: out)).length = out.length + 1 by rw [u8s_len]; rfl)
          have m1 := hid (show (u8s (240 :: out)).length + 1 ≤ maxLen by rw [hsz9.out]; simp [maxLen]; omega)
          have m2 := hid (show ((u8s (240 :: out)).length + 1) * 1 ≤ 140737488355328 by rw [hsz9.out]; omega)
          have hand := and_low X 4 (by omega) (by omega)
          simp at hand
          have hZ : ((X : Int) / 16) = ((X / 2 ^ 4 : Nat) : Int) := by omega
          have HZ := hid hZ
          clear hZ
          go_wp2_with fail
          go_loopg [3, 4, 5] 1 (fun gk ov bv nv wr => (gk = 1 ∧ bv = .int .i64 (X : Nat) ∧ nv = .int .i64 12 ∧ Hid (Own wr w.heap.size 5 ov (u8s (240 :: out))) ∧ Hid (Below w.heap.size w wr)) ∨
            (gk = 0 ∧ bv = .int .i64 (X % 2 ^ 4 : Nat) ∧ nv = .int .i64 4 ∧ Hid (Own wr w.heap.size 5 ov (u8s (240 :: (out ++ [X / 2 ^ 4])))) ∧ Hid (Below w.heap.size w wr)))
          case atStart => exact .inl ⟨rfl, by first | rfl | go_num, by first | rfl | go_num, HO, HB⟩
          case round =>
            clear HO HB
            rcases hrel with ⟨rfl, rfl, rfl, HO, HB⟩ | ⟨rfl, rfl, rfl, HO, HB⟩
            · have m3 := hid HB.out.size
              have hbs := HB.out.size
              go_wp2_with (at_builtin; refine wpList_app _ rfl _ _ 28 rfl w.heap.size 5 i5 _ 1 Tryd.underlying28 hi hz0 hz1 hz2 rfl _ (u8s (240 :: out)) rfl (HO.out.alloc _) _ 1 1 [.int .u8 ((X : Int) / 16)] rfl (Rd.one' _ _ _ _ rfl) (by intro u hu; rw [List.mem_singleton.1 hu]; rfl) m1.out m2.out (Nat.le_trans m3.out (by simp)) ?_)
              intro v5 w5 hO5 hg5 hown5
              have HO5 := hid (show Own w5 w.heap.size 5 v5 (u8s (240 :: (out ++ [X / 2 ^ 4]))) from by
                rw [HZ.out] at hO5
                unfold u8s at hO5 ⊢; rw [← List.cons_append, List.map_append]; exact hO5)
              have HB5 := hid ((HB.out.alloc hbs (.cells #[.int .u8 ((X : Int) / 16)] 5)).grown hg5 (by simp; omega) (fun k hk => (HO.out.lt k hk).1))
              clear hO5 hg5 hown5 HO HB
              go_wp2_with fail
              go_roundg 0
              case measure => omega
              case rel => exact .inr ⟨rfl, by first | rfl | go_num, by first | rfl | go_num, HO5, HB5⟩
            · go_wp2_with fail
              go_roundg (N + 1 - (i + 1))
              case measure => omega
              case rel => exact ⟨i + 1, X % 2 ^ 4, 4, out ++ [X / 2 ^ 4], by omega, rfl, by first | rfl | go_num, by first | rfl | go_num, by go_num, HS, HO, HB⟩
end Go.Proofs.YtfmjkflihnfneaaDoor
