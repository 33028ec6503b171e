/- spec.DMFits, DMMost: the walks. -/
import Derived.Test.YtfmjkflihnfneaaDmA
import Derived.Test.YtfmjkflihnfneaaDmE
namespace Go.Proofs.Ytfmjkflihnfneaa
open Go.RowKit
set_option linter.unusedVariables false
def agg7 (a b c d e f g : Int) : Value := .agg #[.int .i64 a, .int .i64 b, .int .i64 c, .int .i64 d, .int .i64 e, .int .i64 f, .int .i64 g]
def fitsI (a b : Int) (shape : Nat) : Bool := shape == 0 || shape == 1 && (a == b) || shape == 2 && !(a == b)
def BoolBelow (v : Bool) (w : World) (e : Ending) (w' : World) : Prop := e = .returned (.bool v) ∧ Below w.heap.size w w'
set_option maxRecDepth 20000 in
theorem dmFits (a b c d e f g : Int) (shape : Nat) (hs : shape ≤ 2) (w : World) :
    Calls Try.prog 8 #[.agg #[.int .i64 a, .int .i64 b, .int .i64 c, .int .i64 d, .int .i64 e, .int .i64 f, .int .i64 g], .int .i64 shape] w (BoolBelow (fitsI a b shape) w) := by
  have sq := fun W => square a b c d e f g W
  have hB := hid ((Below.refl w.heap.size w).alloc (Nat.le_refl _) (.cells #[.int .i64 a, .int .i64 b, .int .i64 c, .int .i64 d, .int .i64 e, .int .i64 f, .int .i64 g] 31))
  obtain ⟨r, hr⟩ : ∃ r, r = fitsI a b shape := ⟨_, rfl⟩
  rw [← hr]
  unfold fitsI at hr
  have HR := hid hr
  clear hr
  generalize (a == b) = v at *
  rcases (by omega : shape = 0 ∨ shape = 1 ∨ shape = 2) with rfl | rfl | rfl
  · clear sq
    go_enter Try.func8, Try.ntmps8
    go_wp2_with fail
    go_ret
    exact ⟨by rw [HR.out]; rfl, hB.out⟩
  · cases v
    all_goals
      go_enter Try.func8, Try.ntmps8
      go_wp2_with fail
      refine (sq _).mono ?_
      rintro e w1 ⟨rfl, hb⟩
      have HB := hid (hB.out.trans (hb.mono (by simp)))
      clear hb sq
      go_wp2_with fail
      go_ret
      exact ⟨by rw [HR.out]; rfl, HB.out⟩
  · cases v
    all_goals
      go_enter Try.func8, Try.ntmps8
      go_wp2_with fail
      refine (sq _).mono ?_
      rintro e w1 ⟨rfl, hb⟩
      have HB := hid (hB.out.trans (hb.mono (by simp)))
      clear hb sq
      go_wp2_with fail
      go_ret
      exact ⟨by rw [HR.out]; rfl, HB.out⟩
theorem fitsI_sz (k shape : Nat) : fitsI (szf k 0 : Nat) (szf k 1 : Nat) shape = fitsB k shape := by
  have e : (((szf k 0 : Nat) : Int) == ((szf k 1 : Nat) : Int)) = (szf k 0 == szf k 1) := by
    rw [Bool.eq_iff_iff, beq_iff_eq, beq_iff_eq]; omega
  unfold fitsI fitsB sqr
  rw [e]
set_option maxRecDepth 20000 in
set_option maxHeartbeats 4000000 in
theorem dmMost (shape : Nat) (hs : shape ≤ 2) (w : World) :
    Calls Try.prog 6 #[.int .i64 shape] w fun e w' => e = .returned (.int .i64 (most shape 30 : Nat)) ∧ Below w.heap.size w w' := by
  have sz := dmSizes w
  have ft := hid (fun k W => dmFits (szf k 0 : Nat) (szf k 1 : Nat) (szf k 2 : Nat) (szf k 3 : Nat) (szf k 4 : Nat) (szf k 5 : Nat) (szf k 6 : Nat) shape hs W)
  go_enter Try.func6, Try.ntmps6
  go_wp2_with fail
  refine sz.mono ?_
  rintro e w1 ⟨rfl, hA, hb⟩
  have HA := hid hA
  have HB := hid hb
  obtain ⟨g, hg⟩ : ∃ g, g = w.heap.size := ⟨_, rfl⟩
  rw [← hg] at HA ⊢
  have HG := hid hg
  clear hA hb sz hg
  go_wp2_with fail
  go_loopw [3, 8] (fun mv iv wr => ∃ k : Nat, k ≤ 30 ∧ mv = .int .i64 (most shape k : Nat) ∧ iv = .int .i64 k ∧ Hid (Arr wr g 31 szVals) ∧ Hid (Below w.heap.size w wr)) (fun _ iv _ => 30 - (intOf iv).toNat)
  case atStart => exact ⟨0, by omega, rfl, rfl, HA, HB⟩
  case round =>
    obtain ⟨k, hk, rfl, rfl, HA2, HB2⟩ := hrel
    by_cases hlt : k < 30
    · have hlt' : (k : Int) < 30 := by omega
      have c0 := szVals_at HA2.out k 0 hlt (by omega)
      rw [Nat.add_zero] at c0
      have c1 := szVals_at HA2.out k 1 hlt (by omega)
      have c2 := szVals_at HA2.out k 2 hlt (by omega)
      have c3 := szVals_at HA2.out k 3 hlt (by omega)
      have c4 := szVals_at HA2.out k 4 hlt (by omega)
      have c5 := szVals_at HA2.out k 5 hlt (by omega)
      have c6 := szVals_at HA2.out k 6 hlt (by omega)
      have ft1 := ft.out k
      rw [fitsI_sz] at ft1
      have hm := hid (show most shape (k + 1) = if fitsB k shape then max (most shape k) (szf k 4) else most shape k from rfl)
      have hmb := most_le shape k hk
      have hz4 := szf_le k 4 hlt (by omega)
      generalize szf k 0 = s0 at *
      generalize szf k 1 = s1 at *
      generalize szf k 2 = s2 at *
      generalize szf k 3 = s3 at *
      generalize szf k 4 = s4 at *
      generalize szf k 5 = s5 at *
      generalize szf k 6 = s6 at *
      generalize most shape k = m at *
      generalize fitsB k shape = b at *
      have hAn := hid (Arr.of_new wr 31 #[.int .i64 s0, .int .i64 s1, .int .i64 s2, .int .i64 s3, .int .i64 s4, .int .i64 s5, .int .i64 s6])
      have hz := HB2.out.size
      have hgl := hid HA2.out.lt
      cases b
      · go_wp2_with fail
        refine (ft1 _).mono ?_
        rintro e w2 ⟨rfl, hb⟩
        have HB3 := hid ((HB2.out.alloc hz (.cells #[.int .i64 s0, .int .i64 s1, .int .i64 s2, .int .i64 s3, .int .i64 s4, .int .i64 s5, .int .i64 s6] 31)).trans (hb.mono (by simp; omega)))
        have HA3 := hid ((HA2.out.alloc (.cells #[.int .i64 s0, .int .i64 s1, .int .i64 s2, .int .i64 s3, .int .i64 s4, .int .i64 s5, .int .i64 s6] 31)).below hb (by have := hgl.out; simp; omega))
        clear hb ft1
        go_wp2_with fail
        go_roundw
        case rel => exact ⟨k + 1, by omega, by rw [hm.out]; rfl, by go_num, HA3, HB3⟩
        case measure => simp [intOf]; omega
      · go_wp2_with fail
        refine (ft1 _).mono ?_
        rintro e w2 ⟨rfl, hb⟩
        have HB3 := hid ((HB2.out.alloc hz (.cells #[.int .i64 s0, .int .i64 s1, .int .i64 s2, .int .i64 s3, .int .i64 s4, .int .i64 s5, .int .i64 s6] 31)).trans (hb.mono (by simp; omega)))
        have HA3 := hid ((HA2.out.alloc (.cells #[.int .i64 s0, .int .i64 s1, .int .i64 s2, .int .i64 s3, .int .i64 s4, .int .i64 s5, .int .i64 s6] 31)).below hb (by have := hgl.out; simp; omega))
        have c4 : w2.cell? ⟨wr.heap.size, 4, none⟩ = some (.int .i64 s4) := (hAn.out.below hb (by simp)).cell? 4
        clear hb ft1
        by_cases hmx : m < s4
        · have hmx2 : (m : Int) < (s4 : Int) := by omega
          go_wp2_with fail
          go_roundw
          case rel => exact ⟨k + 1, by omega, by rw [hm.out, if_pos trivial, Nat.max_eq_right (by omega)]; (try rfl), by go_num, HA3, HB3⟩
          case measure => simp [intOf]; omega
        · have hmx2 : ¬ (m : Int) < (s4 : Int) := by omega
          go_wp2_with fail
          go_roundw
          case rel => exact ⟨k + 1, by omega, by rw [hm.out, if_pos trivial, Nat.max_eq_left (by omega)]; (try rfl), by go_num, HA3, HB3⟩
          case measure => simp [intOf]; omega
    · obtain rfl : k = 30 := by omega
      go_wp2_with fail
      go_ret
      exact ⟨rfl, HB2.out⟩
end Go.Proofs.Ytfmjkflihnfneaa
