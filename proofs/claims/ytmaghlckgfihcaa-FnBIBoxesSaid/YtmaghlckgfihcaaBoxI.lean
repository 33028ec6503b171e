/- BitMatrix.GetEnclosingRectangle: the walk. -/
import Derived.Test.YtmaghlckgfihcaaFirstW
import Derived.Deep.LoopGhost
import Derived.Deep.CutRange
namespace Go.Proofs.Ytmaghlckgfihcaa
open Go.RowKit
set_option linter.unusedVariables false

section
variable {rs W H : Nat} {ws : List Nat} {R : Nat → Nat → Bool}
theorem seen_big {y x : Nat} (hx : W ≤ x) (a c : Nat) : Seen R W H y x a c ↔ Seen R W H (y + 1) 0 a c := by
  unfold Seen OnB
  constructor
  · rintro ⟨h1, h2⟩; exact ⟨h1, by omega⟩
  · rintro ⟨h1, h2⟩; exact ⟨h1, by omega⟩
theorem seen_word0 (h : Shows rs H ws (allB R W)) (hW : W ≤ 32 * rs) {y k : Nat} (hz : ws.getD (y * rs + k) 0 = 0) (a c : Nat) : Seen R W H y (32 * k) a c ↔ Seen R W H y (32 * (k + 1)) a c := by
  constructor
  · exact seen_sub (by omega) a c
  · rintro ⟨h1, h2⟩
    refine ⟨h1, ?_⟩
    rcases h2 with h2 | ⟨h2, h3⟩
    · exact .inl h2
    · rcases Nat.lt_or_ge a (32 * k) with h4 | h4
      · exact .inr ⟨h2, h4⟩
      · exfalso
        obtain ⟨_, h5⟩ := word_on h hW h1
        rw [h2, show a / 32 = k from by omega, hz] at h5
        simp at h5
theorem word_pos {y k : Nat} (hk : k < rs) (hy : y < H) : y * rs + k < rs * H := by
  have h2 : (y + 1) * rs ≤ H * rs := Nat.mul_le_mul_right _ (by omega)
  rw [Nat.add_mul, Nat.one_mul] at h2
  rw [Nat.mul_comm rs H]
  omega
theorem BoxSt.word (h : Shows rs H ws (allB R W)) (hW : W ≤ 32 * rs) (hW2 : 32 * rs ≤ W + 31) {y k lo hi : Nat} (hk : k < rs) (hy : y < H) {l t r b : Int} (hS : BoxSt (Seen R W H y (32 * k)) W H l t r b)
    (hlo : lo < 32) (hb : (ws.getD (y * rs + k) 0).testBit lo = true) (hl : ∀ i, i < lo → (ws.getD (y * rs + k) 0).testBit i = false)
    (hhi : hi < 32) (hb2 : (ws.getD (y * rs + k) 0).testBit hi = true) (hl2 : ∀ i, (ws.getD (y * rs + k) 0).testBit i = true → i ≤ hi) :
    BoxVal (Seen R W H y (32 * (k + 1))) (if ((32 * k + lo : Nat) : Int) < l then ((32 * k + lo : Nat) : Int) else l) (if (y : Int) < t then (y : Int) else t) (if r < ((32 * k + hi : Nat) : Int) then ((32 * k + hi : Nat) : Int) else r) (if b < (y : Int) then (y : Int) else b) := by
  have hp := word_pos hk hy
  have hm : (y * rs + k) % rs = k := by rw [Nat.mul_add_mod', Nat.mod_eq_of_lt hk]
  have hd : (y * rs + k) / rs = y := by rw [Nat.mul_comm y, Nat.mul_add_div (by omega), Nat.div_eq_of_lt hk, Nat.add_zero]
  have o1 := on_word h hp hlo hb
  have o2 := on_word h hp hhi hb2
  rw [hm, hd, Nat.mul_comm] at o1 o2
  refine hS.more (32 * k + lo) (32 * k + hi) y ?_ ?_ ⟨o1, .inr ⟨rfl, by omega⟩⟩ ⟨o2, .inr ⟨rfl, by omega⟩⟩ (fun a c => seen_sub (by omega) a c) ?_
  · have := o1.1; omega
  · omega
  · rintro a c ⟨h1, h2⟩
    rcases h2 with h2 | ⟨h2, h3⟩
    · exact .inl ⟨h1, .inl h2⟩
    · rcases Nat.lt_or_ge a (32 * k) with h4 | h4
      · exact .inl ⟨h1, .inr ⟨h2, h4⟩⟩
      · obtain ⟨_, h5⟩ := word_on h hW h1
        rw [h2, show a / 32 = k from by omega] at h5
        have h6 := hl2 _ h5
        have h7 : lo ≤ a % 32 := by
          rcases Nat.lt_or_ge (a % 32) lo with h8 | h8
          · rw [hl _ h8] at h5; simp at h5
          · exact h8
        exact .inr ⟨h2, by omega, by omega⟩
theorem BoxSt.bd {y x : Nat} {l t r b : Int} (h : BoxSt (Seen R W H y x) W H l t r b) : 0 ≤ l ∧ l ≤ W ∧ 0 ≤ t ∧ t ≤ H ∧ -1 ≤ r ∧ r < W ∧ -1 ≤ b ∧ b ≤ y := by
  rcases h with ⟨rfl, rfl, rfl, rfl, _⟩ | hv
  · omega
  · have := hv.bd; omega
end

set_option maxRecDepth 20000 in
set_option maxHeartbeats 16000000 in
theorem boxImpl (q g W H rs : Nat) (ws : List Nat) (R : Nat → Nat → Bool) (w : World) (h : IsMat w q g 72 42 W H rs ws (allB R W)) (hW : W ≤ 70) (hrs0 : 1 ≤ rs) (hrs : rs ≤ 3) (hH1 : 1 ≤ H) (hH : H ≤ 70) :
    Calls Try.prog 23 #[.pointer (some ⟨q, 0, none⟩)] w (ResOut (BoxRes (OnB R W H)) w) := by
  obtain ⟨c0, c1, c2, c3⟩ := mat_facts h
  obtain ⟨N, hN⟩ : ∃ N, N = rs * H := ⟨_, rfl⟩
  have hNb : N ≤ 210 := by rw [hN]; exact Nat.mul_le_mul hrs hH
  have HM := hid h
  have HN := hid hN
  rw [← hN] at c3
  have hcell := hid (fun k (hk : k < N) => u32s_at h.bits k (by rw [h.sh.len, ← hN]; exact hk))
  clear h hN
  have HCC := hid (show w.cell? ⟨q, 0, none⟩ = some (.int .i64 W) ∧ w.cell? ⟨q, 1, none⟩ = some (.int .i64 H) ∧ w.cell? ⟨q, 2, none⟩ = some (.int .i64 rs) ∧ w.cell? ⟨q, 3, none⟩ = some (.slice (some ⟨g, 0, none⟩) N N) from ⟨c0, c1, c2, c3⟩)
  go_enter Try.func23, Try.ntmps23
  go_wp2_with fail
  go_loopg [3, 4, 5, 6, 7] H (fun gk lv tv rv bv yv wr => ∃ (y m : Nat) (l t r b : Int), y ≤ H ∧ gk = H - y ∧ yv = .int .i64 (y : Nat) ∧ lv = .int .i64 l ∧ tv = .int .i64 t ∧ rv = .int .i64 r ∧ bv = .int .i64 b ∧ Hid (BoxSt (Seen R W H y 0) W H l t r b) ∧ w.drewN m = wr)
  case atStart => exact ⟨0, 0, W, H, -1, -1, by omega, by omega, rfl, rfl, rfl, rfl, rfl, hid (.inl ⟨rfl, rfl, rfl, rfl, fun x y hh => by have := hh.2; omega⟩), rfl⟩
  case round =>
    obtain ⟨y, m, l, t, r, b, hy, hg, rfl, rfl, rfl, rfl, rfl, HST, hw⟩ := hrel
    have HW := hid hw
    have hcD := hid (fun (a : Addr) => show wr.cell? a = w.cell? a from by rw [← hw]; rfl)
    clear hw
    obtain ⟨d0, d1, d2, d3⟩ := HCC.out
    clear c0 c1 c2 c3
    rw [← hcD.out] at d0 d1 d2 d3
    by_cases hlt : y < H
    · have hlt' : (y : Int) < (H : Int) := by omega
      go_wp2_with fail
      go_loopg [3, 4, 5, 6, 8] rs (fun gk lv tv rv bv kv wr => ∃ (k m : Nat) (l t r b : Int), k ≤ rs ∧ gk = rs - k ∧ kv = .int .i64 (k : Nat) ∧ lv = .int .i64 l ∧ tv = .int .i64 t ∧ rv = .int .i64 r ∧ bv = .int .i64 b ∧ Hid (BoxSt (Seen R W H y (32 * k)) W H l t r b) ∧ w.drewN m = wr)
      case atStart => exact ⟨0, m, l, t, r, b, by omega, by omega, rfl, rfl, rfl, rfl, rfl, HST, HW.out⟩
      case round =>
        clear HST HW hcD d0 d1 d2 d3
        obtain ⟨k, m, l, t, r, b, hk, hg2, rfl, rfl, rfl, rfl, rfl, HST, hw⟩ := hrel
        have HW := hid hw
        have hcD := hid (fun (a : Addr) => show wr.cell? a = w.cell? a from by rw [← hw]; rfl)
        clear hw
        obtain ⟨d0, d1, d2, d3⟩ := HCC.out
        rw [← hcD.out] at d0 d1 d2 d3
        obtain ⟨x1, x2, x3, x4, x5, x6, x7, x8⟩ := HST.out.bd
        by_cases hk1 : k < rs
        · have hk1' : (k : Int) < (rs : Int) := by omega
          have hpos := word_pos hk1 hlt
          rw [← HN.out] at hpos
          have ck := hcell.out (y * rs + k) hpos
          rw [← hcD.out] at ck
          have hwl := HM.out.sh.lt (y * rs + k)
          have e2 : IntKind.i64.wrap ((y : Int) * (rs : Int)) = ((y * rs : Nat) : Int) := by
            rw [show (y : Int) * (rs : Int) = ((y * rs : Nat) : Int) from by simp]
            have := Nat.mul_le_mul (show y ≤ 70 by omega) hrs
            exact IntWalk.i64_in _ ⟨by omega, by omega⟩
          have HW0 := hid (fun hz => HST.out.congr (fun a c => seen_word0 HM.out.sh HM.out.wr hz a c))
          have HW1 := hid (fun lo hi a1 a2 a3 a4 a5 a6 => HST.out.word HM.out.sh HM.out.wr HM.out.rw_ hk1 hlt (lo := lo) (hi := hi) a1 a2 a3 a4 a5 a6)
          have hyr : y * rs ≤ 210 := by have := Nat.mul_le_mul (show y ≤ 70 by omega) hrs; omega
          have i1 : ((y * rs : Nat) : Int) + (k : Int) < (N : Int) := by omega
          have i2 : (((y * rs : Nat) : Int) + (k : Int)).toNat = y * rs + k := by omega
          have i3 : (0 : Int) ≤ ((y * rs : Nat) : Int) + (k : Int) := by omega
          generalize hP : y * rs = P at *
          generalize ws.getD (P + k) 0 = wd at *
          clear hP
          go_wp2_with fail
          go_quiet (fail)
          generalize hwq : wr.drewN _ = wq at *
          have HWQ := hid (show ∃ m2, w.drewN m2 = wq from ⟨_, by rw [← hwq, ← HW.out]; exact (World.drewN_drewN _ _ _).symm⟩)
          clear hwq d0 d1 d2 d3 ck e2 i1 i2 i3 hcD HW
          by_cases hz : wd = 0
          · have HS2 := hid (HW0.out hz)
            subst hz
            obtain ⟨m2, hm2⟩ := HWQ.out
            have HM2 := hid hm2
            clear hm2
            go_wp2_with fail
            go_roundg (rs - (k + 1))
            case measure => omega
            case rel => exact ⟨k + 1, m2, l, t, r, b, by omega, rfl, by go_num, rfl, rfl, rfl, rfl, HS2, HM2.out⟩
          · obtain ⟨lo, hlo, hb, hl⟩ := low_bit hwl hz
            obtain ⟨hi, hhi, hb2, hl2⟩ := high_bit hwl hz
            have HS2 := hid (HW1.out lo hi hlo hb hl hhi hb2 hl2)
            have HT1 := hid (fun i (hi : i < lo) => shl_test wd i (by omega) true (by rw [shl_zero hl hi (by omega)]; rfl))
            have HT2 := hid (shl_test wd lo (by omega) false (by rw [beq_eq_false_iff_ne]; exact shl_ne hb hlo))
            have HT3 := hid (fun i (hi2 : hi < i) => shr_test wd i true (by rw [shr_zero hl2 hi2]; rfl))
            have HT4 := hid (shr_test wd hi false (by rw [beq_eq_false_iff_ne]; exact shr_ne hb2))
            have hz' : (((wd : Nat) : Int) == 0) = false := by rw [beq_eq_false_iff_ne]; omega
            clear hz hb hl hb2 hl2 HW0 HW1
            go_upto_if 54 with fail
            obtain ⟨t', ht'⟩ : ∃ t' : Int, t' = if (y : Int) < t then (y : Int) else t := ⟨_, rfl⟩
            obtain ⟨b', hb'⟩ : ∃ b' : Int, b' = if b < (y : Int) then (y : Int) else b := ⟨_, rfl⟩
            obtain ⟨l', hl'⟩ : ∃ l' : Int, l' = if ((32 * k + lo : Nat) : Int) < l then ((32 * k + lo : Nat) : Int) else l := ⟨_, rfl⟩
            obtain ⟨r', hr'⟩ : ∃ r' : Int, r' = if r < ((32 * k + hi : Nat) : Int) then ((32 * k + hi : Nat) : Int) else r := ⟨_, rfl⟩
            rw [← hl', ← ht', ← hr', ← hb'] at HS2
            have HTP := hid ht'
            have HBP := hid hb'
            have HLP := hid hl'
            have HRP := hid hr'
            clear ht' hb' hl' hr'
            go_cut [4] from 28 to 103 (fun tv wx => tv = .int .i64 t' ∧ wq = wx)
            case first =>
              by_cases h : (y : Int) < t
              all_goals (
                go_wp2_with fail
                go_meet
                case rel => exact ⟨by rw [HTP.out]; congr 1; split <;> omega, rfl⟩)
            case rest =>
              obtain ⟨rfl, rfl⟩ := hcut
              go_upto_if 58 with fail
              go_cut [6] from 28 to 103 (fun bv wx => bv = .int .i64 b' ∧ wq = wx)
              case first =>
                by_cases h : b < (y : Int)
                all_goals (
                  go_wp2_with fail
                  go_meet
                  case rel => exact ⟨by rw [HBP.out]; congr 1; split <;> omega, rfl⟩)
              case rest =>
                obtain ⟨rfl, rfl⟩ := hcut
                go_upto_if 63 with fail
                go_cut [3] from 28 to 103 (fun lv wx => lv = .int .i64 l' ∧ wq = wx)
                case first =>
                  by_cases h : (k : Int) * 32 < l
                  · go_wp2_with fail
                    go_loopw [10] (fun iv wr => ∃ i : Nat, i ≤ lo ∧ iv = .int .i64 (i : Nat) ∧ wq = wr) (fun iv _ => lo - (intOf iv).toNat)
                    case atStart => exact ⟨0, by omega, rfl, rfl⟩
                    case round =>
                      obtain ⟨i, hi3, rfl, rfl⟩ := hrel
                      have t1 : ((31 : Int) - (i : Int)).toNat = 31 - i := by omega
                      by_cases hil : i < lo
                      · have ht := HT1.out i hil
                        go_wp2_with fail
                        go_roundw
                        case rel => exact ⟨i + 1, by omega, by go_num, by first | rfl | trivial⟩
                        case measure => simp [intOf]; omega
                      · obtain rfl : i = lo := by omega
                        have ht := HT2.out
                        by_cases h2 : (k : Int) * 32 + (i : Int) < l
                        all_goals (
                          go_wp2_with fail
                          go_meet
                          case rel => exact ⟨by rw [HLP.out]; congr 1; split <;> omega, rfl⟩)
                  · go_wp2_with fail
                    go_meet
                    case rel => exact ⟨by rw [HLP.out]; congr 1; split <;> omega, rfl⟩
                case rest =>
                  obtain ⟨rfl, rfl⟩ := hcut
                  obtain ⟨m2, hm2⟩ := HWQ.out
                  have HM2 := hid hm2
                  clear hm2
                  by_cases h : r < (k : Int) * 32 + 31
                  · go_wp2_with fail
                    go_loopw [11] (fun iv wr => ∃ i : Nat, hi ≤ i ∧ i ≤ 31 ∧ iv = .int .i64 (i : Nat) ∧ wq = wr) (fun iv _ => (intOf iv).toNat)
                    case atStart => exact ⟨31, by omega, by omega, rfl, rfl⟩
                    case round =>
                      obtain ⟨i, hi3, hi4, rfl, rfl⟩ := hrel
                      by_cases hil : hi < i
                      · have ht := HT3.out i hil
                        go_wp2_with fail
                        go_roundw
                        case rel => exact ⟨i - 1, by omega, by omega, by go_num, by first | rfl | trivial⟩
                        case measure => simp [intOf] <;> omega
                      · obtain rfl : i = hi := by omega
                        have ht := HT4.out
                        by_cases h2 : r < (k : Int) * 32 + (i : Int)
                        all_goals (
                          go_wp2_with fail
                          go_roundg (rs - (k + 1))
                          case measure => omega
                          case rel => exact ⟨k + 1, m2, l', t', r', b', by omega, rfl, by go_num, rfl, rfl, by rw [HRP.out]; congr 1; split <;> omega, rfl, hid (.inr HS2.out), HM2.out⟩)
                  · go_wp2_with fail
                    go_roundg (rs - (k + 1))
                    case measure => omega
                    case rel => exact ⟨k + 1, m2, l', t', r', b', by omega, rfl, by go_num, rfl, rfl, by rw [HRP.out]; congr 1; split <;> omega, rfl, hid (.inr HS2.out), HM2.out⟩
        · obtain rfl : k = rs := by omega
          have hk1' : ¬ (k : Int) < (k : Int) := by omega
          have HS2 := hid (HST.out.congr (fun a c => seen_big (H := H) (R := R) (y := y) HM.out.wr a c))
          clear hcD
          go_wp2_with fail
          go_roundg (H - (y + 1))
          case measure => omega
          case rel => exact ⟨y + 1, m, l, t, r, b, by omega, rfl, by go_num, rfl, rfl, rfl, rfl, HS2, HW.out⟩
    · obtain rfl : y = H := by omega
      have hlt' : ¬ (y : Int) < (y : Int) := by omega
      have hbel := hid (show Below w.heap.size w wr from by rw [← HW.out]; exact below_drewN (Below.refl _ _) m)
      clear hcD
      rcases HST.out.done with ⟨rfl, rfl, rfl, rfl, hP⟩ | ⟨l', t', r', b', rfl, rfl, rfl, rfl, h1, h2, h3, h4, hP⟩
      · have HP := hid hP
        clear hP
        go_wp2_with fail
        go_ret
        exact ResOut.nil HP.out hbel.out
      · have HP := hid hP
        have q1 : ¬ (r' : Int) < (l' : Int) := by omega
        have q2 : ¬ (b' : Int) < (t' : Int) := by omega
        clear hP
        go_wp2_with fail
        go_ret
        refine ResOut.lit [l', t', r' - l' + 1, b' - t' + 1] HP.out (by simp) hbel.out _ ?_
        simp [numsL]
        omega
end Go.Proofs.Ytmaghlckgfihcaa
