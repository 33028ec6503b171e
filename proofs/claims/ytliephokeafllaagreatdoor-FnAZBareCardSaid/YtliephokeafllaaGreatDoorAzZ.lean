/- Bits as bytes by the package. -/
import Derived.Test.YtliephokeafllaaGreatDoorAzU
namespace Go.Proofs.YtliephokeafllaaGreatDoor
open Go.RowKit
set_option linter.unusedVariables false
set_option linter.unusedSimpArgs false

/-- The byte from place s on, zeros behind the last bit. -/
def rbv (l : List Bool) (s : Nat) : Nat := if s + 8 ≤ l.length then codeAt l s 8 else codeAt l s (l.length - s) * 2 ^ (8 - (l.length - s))
theorem rbv_lt (l : List Bool) (s : Nat) : rbv l s < 256 := by
  unfold rbv
  split
  · exact codeAt_lt l s 8
  · rename_i h
    have h1 := codeAt_lt l s (l.length - s)
    obtain ⟨m, hm⟩ : ∃ m, m = l.length - s := ⟨_, rfl⟩
    rw [← hm] at h1 ⊢
    have h2 : codeAt l s m * 2 ^ (8 - m) < 2 ^ m * 2 ^ (8 - m) := Nat.mul_lt_mul_of_pos_right h1 (Nat.two_pow_pos _)
    rw [← Nat.pow_add, show m + (8 - m) = 8 by omega] at h2
    exact h2
set_option maxHeartbeats 400000 in
theorem readByteM (A : Option Addr) (n c : Nat) (l : List Bool) (s : Nat) (w : World) (hR : Rd w A n (l.map Value.bool)) (hn : n ≤ 1000000) (hs : s ≤ n) :
    Calls Tryz.prog 68 #[.slice A n c, .int .i64 (s : Nat)] w fun e w' => e = .returned (.int .u8 (rbv l s : Nat)) ∧ w = w' := by
  have hl : l.length = n := by simpa using hR.1
  have hv := rbv_lt l s
  by_cases h8 : 8 ≤ n - s
  · have h8' : (8 : Int) ≤ (n : Int) - s := by omega
    have rc : Calls Tryz.prog 64 #[.slice A n c, .int .i64 (s : Nat), .int .i64 8] w fun e w' => e = .returned (.int .i64 (rbv l s : Nat)) ∧ w = w' := by
      have := readCodeM A n c l s 8 w hR hn (by omega) (by omega)
      unfold rbv
      rw [if_pos (by omega)]
      exact this
    generalize rbv l s = v at *
    clear hl
    go_enter Tryz.func68, Tryz.ntmps68
    go_wp2_with fail
    refine rc.mono ?_
    rintro e w' ⟨rfl, rfl⟩
    go_wp2_with fail
    go_ret
    exact ⟨rfl, rfl⟩
  · obtain ⟨m, hm, hm7⟩ : ∃ m : Nat, (n : Int) - s = m ∧ m ≤ 7 := ⟨n - s, by omega, by omega⟩
    have h8' : ¬ (8 : Int) ≤ (n : Int) - s := by omega
    have rc := readCodeM A n c l s m w hR hn (by omega) (by omega)
    have hb := codeAt_lt l s m
    have hb' : 2 ^ m ≤ 2 ^ 7 := Nat.pow_le_pow_right (by omega) hm7
    have hP : rbv l s = codeAt l s m * 2 ^ (8 - m) := by
      unfold rbv
      rw [if_neg (by omega), show l.length - s = m by omega]
    have HP := hid hP
    have HM := hid hm
    clear hP hl hm
    generalize rbv l s = v at *
    generalize codeAt l s m = q at *
    go_enter Tryz.func68, Tryz.ntmps68
    go_wp2_with fail
    rw [HM.out]
    refine rc.mono ?_
    rintro e w' ⟨rfl, rfl⟩
    have hq : q < 128 := by omega
    have hq2 : ((q : Nat) : Int) * 2 ^ (8 - m) = ((v : Nat) : Int) := by rw [HP.out]; simp
    have hq3 : wrap64 (((q : Nat) : Int) * 2 ^ (8 - m)) = ((v : Nat) : Int) := by rw [hq2]; exact IntWalk.wrap64_in _ (by omega)
    clear hq2 rc
    go_wp2_with fail
    go_ret
    exact ⟨rfl, rfl⟩

/-- Some bytes, in new memory. -/
def SomeBytes (m : Nat) (w : World) (e : Ending) (w' : World) : Prop :=
  ∃ A c W, e = .returned (.slice A m c) ∧ Rd w' A m (u8s W) ∧ W.length = m ∧ Below w.heap.size w w'
def rbTo (l : List Bool) (m k : Nat) : List Nat := (List.range m).map fun j => if j < k then rbv l (8 * j) else 0
theorem rbTo_len (l : List Bool) (m k : Nat) : (rbTo l m k).length = m := by simp [rbTo]
theorem rbTo_zero (l : List Bool) (m : Nat) : List.replicate m (Value.int .u8 0) = u8s (rbTo l m 0) := by
  apply List.ext_getElem
  · simp [u8s, rbTo]
  · intro i h1 h2; simp [u8s, rbTo]
theorem rbTo_step (l : List Bool) (m k : Nat) : (u8s (rbTo l m k)).set k (.int .u8 (rbv l (8 * k) : Nat)) = u8s (rbTo l m (k + 1)) := by
  rw [u8s_set]
  congr 1
  apply List.ext_getElem
  · simp [rbTo]
  · intro j h1 h2
    rw [List.getElem_set]
    simp only [rbTo, List.getElem_map, List.getElem_range]
    by_cases h : k = j
    · subst h; simp
    · rw [if_neg h]
      by_cases h3 : j < k
      · rw [if_pos h3, if_pos (by omega)]
      · rw [if_neg h3, if_neg (by omega)]
set_option maxHeartbeats 400000 in
theorem convertM (A : Option Addr) (n c : Nat) (l : List Bool) (w : World) (hR : Rd w A n (l.map Value.bool)) (hn : n ≤ 100000) :
    Calls Tryz.prog 42 #[.slice A n c] w (SomeBytes ((n + 7) / 8) w) := by
  obtain ⟨i0, hi, hz0, hz1, hz2⟩ := info_of info5
  have hmk := run_make (P := Tryz.prog) w 22 5 i0 (.int .u8 0) Tryz.underlying22 hi hz0 .i64 .i64 (((n : Int) + 7) / 8) (((n : Int) + 7) / 8) (by omega) (by omega) (by rw [hz2]; omega) (by omega)
  rw [hz1] at hmk
  have HR := hid hR
  clear hz0 hz1 hz2 hi hR
  go_enter Tryz.func42, Tryz.ntmps42
  go_wp2
  have hA : Arr (w.alloc (.cells (madeCells #[.int .u8 0] ((n + 7) / 8)) 5)) w.heap.size 5 (u8s (rbTo l ((n + 7) / 8) 0)) := by
    have := Arr.made w 5 (.int .u8 0) ((n + 7) / 8)
    rw [rbTo_zero l] at this
    exact this
  have hB : Below w.heap.size w (w.alloc (.cells (madeCells #[.int .u8 0] ((n + 7) / 8)) 5)) := (Below.refl _ _).alloc (Nat.le_refl _) _
  generalize w.alloc (.cells (madeCells #[.int .u8 0] ((n + 7) / 8)) 5) = w1 at hA hB ⊢
  clear hmk
  go_loopw [4] (fun i wr => ∃ k : Nat, k ≤ (n + 7) / 8 ∧ i = .int .i64 k ∧ Arr wr w.heap.size 5 (u8s (rbTo l ((n + 7) / 8) k)) ∧ Below w.heap.size w wr) (fun i _ => (n + 7) / 8 - (intOf i).toNat)
  case atStart => exact ⟨0, Nat.zero_le _, rfl, hA, hB⟩
  case round =>
    obtain ⟨k, hk, rfl, hA, hB⟩ := hrel
    by_cases hlt : k < (n + 7) / 8
    · have hl' : (k : Int) < ((n : Int) + 7) / 8 := by omega
      have hf := hA.frozen k
      obtain ⟨v, hc⟩ := hA.has k (by rw [u8s_len, rbTo_len]; exact hlt)
      have rb := readByteM A n c l (8 * k) wr (HR.out.below hB) (by omega) (by omega)
      have hst := rbTo_step l ((n + 7) / 8) k
      have HST := hid hst
      have hb := rbv_lt l (8 * k)
      clear hst
      generalize rbv l (8 * k) = x at *
      go_wp2_with fail
      rw [show (8 * (k : Int)) = ((8 * k : Nat) : Int) from by omega]
      refine rb.mono ?_
      rintro e w' ⟨rfl, rfl⟩
      clear rb
      go_wp2_with fail
      go_roundw
      case rel =>
        have h := hA.set k (.int .u8 (x : Nat))
        rw [HST.out] at h
        exact ⟨k + 1, by omega, by go_num, h, hB.setCell (Nat.le_refl _) _⟩
      case measure => simp [intOf]; omega
    · obtain rfl : k = (n + 7) / 8 := by omega
      have hl' : ¬ (((n + 7) / 8 : Nat) : Int) < ((n : Int) + 7) / 8 := by omega
      go_wp2_with fail
      go_ret
      have hr := Rd.of_arr hA
      rw [u8s_len, rbTo_len] at hr
      exact ⟨_, (n + 7) / 8, rbTo l ((n + 7) / 8) ((n + 7) / 8), rfl, hr, rbTo_len _ _ _, hB⟩
end Go.Proofs.YtliephokeafllaaGreatDoor
