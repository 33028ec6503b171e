/- The walks of FnAZBytes: bits as bytes, twice over. -/
import Derived.Test.YtifegijnhlbedaaProg
import Derived.Test.YtifegijnhlbedaaMem
import Derived.Test.YtifegijnhlbedaaBits
import Derived.Test.YtifegijnhlbedaaPack
import Derived.BigQuiet
import Derived.Deep.QuietTactic
import Derived.KernelRfl
namespace Go.Proofs.Ytifegijnhlbedaa
open Go.RowKit
set_option linter.unusedVariables false

theorem info5 : (Try.prog.info? 5).map (fun i => (i.zero, i.size, i.bytes)) = some (some (.int .u8 0), 1, 1) := by kernel_rfl
theorem info4 : (Try.prog.info? 4).map (fun i => (i.zero, i.size, i.bytes)) = some (some (.bool false), 1, 1) := by kernel_rfl

theorem rd_bool {w : World} {A : Option Addr} {n : Nat} {l : List Bool} (h : Rd w A n (l.map Value.bool)) (k : Nat) (hk : k < n) :
    ∃ b o, A = some ⟨b, o, none⟩ ∧ w.cell? ⟨b, o + k, none⟩ = some (.bool (l.getD k false)) := by
  obtain ⟨b, o, hA, hc⟩ := h.at_ k hk
  have hl : l.length = n := by simpa using h.1
  exact ⟨b, o, hA, by rw [hc]; simp [List.getD, List.getElem?_eq_getElem (show k < l.length by omega)]⟩

set_option maxHeartbeats 400000 in
theorem readCode (A : Option Addr) (n c : Nat) (l : List Bool) (s m : Nat) (w : World) (hR : Rd w A n (l.map Value.bool)) (hn : n ≤ 1000000) (hsm : s + m ≤ n) (hm : m ≤ 8) :
    Calls Try.prog 45 #[.slice A n c, .int .i64 s, .int .i64 m] w fun e w' => e = .returned (.int .i64 (bitsVal l s m)) ∧ w = w' := by
  go_enter Try.func45, Try.ntmps45
  go_wp2
  go_loop [7, 8] (fun r i => ∃ k : Nat, k ≤ m ∧ i = .int .i64 (s + k : Nat) ∧ r = .int .i64 (bitsVal l s k)) (fun _ i => s + m - (intOf i).toNat)
  case atStart => exact ⟨0, Nat.zero_le _, rfl, rfl⟩
  case round =>
    obtain ⟨k, hk, rfl, rfl⟩ := hrel
    by_cases hlt : k < m
    · have h1 : ((s + k : Nat) : Int) < (s : Int) + m := by omega
      obtain ⟨b, o, rfl, hc1⟩ := rd_bool hR (s + k) (by omega)
      have hs : s + k < n := by omega
      have hv : bitsVal l s k < 2 ^ k := bitsVal_lt l s k
      have hv2 : 2 ^ k ≤ 2 ^ 8 := Nat.pow_le_pow_right (by omega) (by omega)
      have hv3 : bitsVal l s k < 256 := by omega
      have HB := hid (show bitsVal l s (k + 1) = 2 * bitsVal l s k + (l.getD (s + k) false).toNat from rfl)
      clear hv hv2 hR
      generalize bitsVal l s k = q at hv3 HB ⊢
      generalize l.getD (s + k) false = bt at hc1 HB
      cases bt
      · go_wp2
        go_roundw
        case rel => exact ⟨k + 1, by omega, by go_num, by rw [HB.out]; go_num⟩
        case measure => simp [intOf]; omega
      · have ho := i64_or_one q (by omega)
        go_wp2
        go_roundw
        case rel => exact ⟨k + 1, by omega, by go_num, by rw [HB.out]; go_num⟩
        case measure => simp [intOf]; omega
    · obtain rfl : k = m := by omega
      go_wp2
      go_ret
      exact ⟨rfl, rfl⟩

set_option maxHeartbeats 400000 in
theorem readByte (A : Option Addr) (n c : Nat) (l : List Bool) (s : Nat) (w : World) (hR : Rd w A n (l.map Value.bool)) (hn : n ≤ 1000000) (hs : s ≤ n) :
    Calls Try.prog 41 #[.slice A n c, .int .i64 s] w fun e w' => e = .returned (.int .u8 (bitsVal l s 8)) ∧ w = w' := by
  by_cases h8 : 8 ≤ n - s
  · have hb := bitsVal_lt8 l s
    have h8' : (8 : Int) ≤ (n : Int) - s := by omega
    go_enter Try.func41, Try.ntmps41
    go_wp2_with fail
    refine (readCode A n c l s 8 w hR hn (by omega) (by omega)).mono ?_
    rintro e w' ⟨rfl, rfl⟩
    go_wp2_with fail
    go_ret
    exact ⟨rfl, rfl⟩
  · obtain ⟨m, hm, hm7⟩ : ∃ m : Nat, (n : Int) - s = m ∧ m ≤ 7 := ⟨n - s, by omega, by omega⟩
    have hl : l.length = n := by simpa using hR.1
    have hb := bitsVal_lt l s m
    have hb' : 2 ^ m ≤ 2 ^ 7 := Nat.pow_le_pow_right (by omega) hm7
    have hp := bitsVal_past l s m (8 - m) (by omega)
    rw [show m + (8 - m) = 8 from by omega] at hp
    have hb8 := bitsVal_lt8 l s
    have HP := hid hp
    have HM := hid hm
    have h8' : ¬ (8 : Int) ≤ (n : Int) - s := by omega
    have hsm : s + m ≤ n := by omega
    clear hp hl hm
    go_enter Try.func41, Try.ntmps41
    go_wp2_with fail
    rw [HM.out]
    refine (readCode A n c l s m w hR hn hsm (by omega)).mono ?_
    rintro e w' ⟨rfl, rfl⟩
    have hq : bitsVal l s m < 128 := by omega
    have hq2 : ((bitsVal l s m : Nat) : Int) * 2 ^ (8 - m) = ((bitsVal l s 8 : Nat) : Int) := by rw [HP.out]; simp
    have hq3 : wrap64 (((bitsVal l s m : Nat) : Int) * 2 ^ (8 - m)) = ((bitsVal l s 8 : Nat) : Int) := by rw [hq2]; exact IntWalk.wrap64_in _ (by omega)
    clear hq2
    go_wp2_with fail
    go_ret
    exact ⟨rfl, rfl⟩

/-- What is handed back reads as these bytes; nothing that was there has turned. -/
def BytesOut (l : List Nat) (w : World) (e : Ending) (w' : World) : Prop :=
  ∃ A c, e = .returned (.slice A l.length c) ∧ Rd w' A l.length (l.map fun x => Value.int .u8 (x : Nat)) ∧ Below w.heap.size w w'

/-- Bytes of which the first k are laid. -/
def laidTo (l : List Bool) (k : Nat) : List Value := (List.range ((l.length + 7) / 8)).map fun j => .int .u8 (if j < k then (bitsVal l (8 * j) 8 : Nat) else (0 : Nat))

theorem laidTo_zero (l : List Bool) : List.replicate ((l.length + 7) / 8) (Value.int .u8 0) = laidTo l 0 := by
  apply List.ext_getElem <;> simp [laidTo]
theorem laidTo_step (l : List Bool) (k : Nat) : (laidTo l k).set k (.int .u8 (bitsVal l (8 * k) 8 : Nat)) = laidTo l (k + 1) := by
  apply List.ext_getElem
  · simp [laidTo]
  · intro j h1 h2
    rw [List.getElem_set]
    simp only [laidTo, List.getElem_map, List.getElem_range]
    by_cases h : k = j
    · subst h; simp
    · rw [if_neg h]
      by_cases h3 : j < k
      · rw [if_pos h3, if_pos (by omega)]
      · rw [if_neg h3, if_neg (by omega)]
theorem laidTo_all (l : List Bool) : laidTo l ((l.length + 7) / 8) = (packed l).map fun x => Value.int .u8 (x : Nat) := by
  simp only [laidTo, packed, List.map_map]
  apply List.map_congr_left
  intro j hj
  simp only [List.mem_range] at hj
  simp [hj]
theorem laidTo_length (l : List Bool) (k : Nat) : (laidTo l k).length = (l.length + 7) / 8 := by simp [laidTo]
theorem packed_length (l : List Bool) : (packed l).length = (l.length + 7) / 8 := by simp [packed]

set_option maxHeartbeats 400000 in
theorem convertBytes (A : Option Addr) (n c : Nat) (l : List Bool) (w : World) (hR : Rd w A n (l.map Value.bool)) (hn : n ≤ 100000) :
    Calls Try.prog 36 #[.slice A n c] w (BytesOut (packed l) w) := by
  have hl : l.length = n := by simpa using hR.1
  obtain ⟨i0, hi, hz0, hz1, hz2⟩ := info_parts info5
  have hmk := run_make (P := Try.prog) w 29 5 i0 (.int .u8 0) Try.underlying29 hi hz0 .i64 .i64 (((n : Int) + 7) / 8) (((n : Int) + 7) / 8) (by omega) (by omega) (by rw [hz2]; omega) (by omega)
  rw [hz1] at hmk
  have HL := hid hl
  clear hl hz0 hz1 hz2 hi
  go_enter Try.func36, Try.ntmps36
  go_wp2
  have hA : Arr (w.alloc (.cells (madeCells #[.int .u8 0] ((n + 7) / 8)) 5)) w.heap.size 5 (laidTo l 0) := by
    have := Arr.made w 5 (.int .u8 0) ((n + 7) / 8)
    rw [← HL.out, laidTo_zero, HL.out] at this
    exact this
  have hB : Below w.heap.size w (w.alloc (.cells (madeCells #[.int .u8 0] ((n + 7) / 8)) 5)) := (Below.refl _ _).alloc (Nat.le_refl _) _
  generalize w.alloc (.cells (madeCells #[.int .u8 0] ((n + 7) / 8)) 5) = w1 at hA hB ⊢
  clear hmk
  go_loopw [4] (fun i wr => ∃ k : Nat, k ≤ (n + 7) / 8 ∧ i = .int .i64 k ∧ Arr wr w.heap.size 5 (laidTo l k) ∧ Below w.heap.size w wr) (fun i _ => (n + 7) / 8 - (intOf i).toNat)
  case atStart => exact ⟨0, Nat.zero_le _, rfl, hA, hB⟩
  case round =>
    obtain ⟨k, hk, rfl, hA, hB⟩ := hrel
    by_cases hlt : k < (n + 7) / 8
    · have hl' : (k : Int) < ((n : Int) + 7) / 8 := by omega
      have hf := hA.frozen k
      obtain ⟨v, hc⟩ := hA.has k (by rw [laidTo_length, HL.out]; exact hlt)
      have hR' := hR.below hB
      have hb := bitsVal_lt8 l (8 * k)
      have HR := hid hR'
      clear hR'
      go_wp2_with fail
      rw [show (8 * (k : Int)) = ((8 * k : Nat) : Int) from by omega]
      refine (readByte A n c l (8 * k) wr HR.out (by omega) (by omega)).mono ?_
      rintro e w' ⟨rfl, rfl⟩
      go_wp2_with fail
      go_roundw
      case rel =>
        have h := hA.set k (.int .u8 (bitsVal l (8 * k) 8 : Nat))
        rw [laidTo_step] at h
        exact ⟨k + 1, by omega, by go_num, h, hB.setCell (Nat.le_refl _) _⟩
      case measure => simp [intOf]; omega
    · obtain rfl : k = (n + 7) / 8 := by omega
      have hl' : ¬ (((n + 7) / 8 : Nat) : Int) < ((n : Int) + 7) / 8 := by omega
      go_wp2_with fail
      go_ret
      rw [← HL.out, laidTo_all] at hA
      have hr := Rd.of_arr hA
      simp only [List.length_map] at hr
      have e := packed_length l
      rw [HL.out] at e
      exact ⟨_, (n + 7) / 8, by rw [e]; rfl, hr, hB⟩

set_option maxHeartbeats 400000 in
theorem ConvertBytes (A : Option Addr) (n c : Nat) (l : List Bool) (w : World) (hR : Rd w A n (l.map Value.bool)) (hn : n ≤ 100000) :
    Calls Try.prog 25 #[.slice A n c] w (BytesOut (packed l) w) := by
  go_enter Try.func25, Try.ntmps25
  go_wp2_with fail
  refine (convertBytes A n c l w hR hn).mono ?_
  rintro e w' ⟨A', c', rfl, h1, h2⟩
  go_wp2_with fail
  go_ret
  exact ⟨_, _, rfl, h1, h2⟩

theorem bool_one (l : List Bool) : ∀ u ∈ l.map Value.bool, u.oneCell' = true := by
  intro u hu
  obtain ⟨b, _, rfl⟩ := List.mem_map.1 hu
  rfl

set_option maxHeartbeats 400000 in
theorem implAZBytes (A : Option Addr) (n c : Nat) (l : List Bool) (w : World) (hR : Rd w A n (l.map Value.bool)) (hn : n ≤ 100000) :
    Calls Try.prog 11 #[.slice A n c] w (BytesOut (packed l) w) := by
  obtain ⟨i0, hi, hz0, hz1, hz2⟩ := info_parts info4
  go_enter Try.func11, Try.ntmps11
  go_wp2_with (at_builtin; refine wpList_app _ rfl _ _ 28 rfl w.heap.size 4 i0 _ 1 Try.underlying28 hi hz0 hz1 hz2 rfl _ [] rfl (Own.nil _ _ _) A n c (l.map Value.bool) rfl hR (bool_one l) (by simp [maxLen]; omega) (by simp; omega) (Nat.le_refl _) ?_)
  intro v w1 hO hg _
  try simp only [List.nil_append] at hO
  obtain ⟨A', c', rfl, hR', hc'⟩ := hO.form
  simp only [List.length_map] at hR'
  have hB : Below w.heap.size w w1 := (Below.refl _ _).grown hg (Nat.le_refl _) (by simp [Value.ownBlock])
  have hl : l.length ≤ 100000 := by have : l.length = n := by simpa using hR.1
                                    omega
  clear hO hg
  go_wp2_with fail
  refine (ConvertBytes A' _ c' l w1 hR' hl).mono ?_
  rintro e w' ⟨A', c', rfl, h1, h2⟩
  go_wp2_with fail
  go_ret
  exact ⟨_, _, rfl, h1, hB.trans (h2.mono hB.size)⟩

theorem u8_or_bit (x m : Nat) (hx : x < 256) (hm : m < 8) : bits .or .u8 (x : Int) (128 / 2 ^ m) = ((x ||| 2 ^ (7 - m) : Nat) : Int) := by
  have e : (128 / 2 ^ m : Int) = ((2 ^ (7 - m) : Nat) : Int) := by
    rcases (by omega : m = 0 ∨ m = 1 ∨ m = 2 ∨ m = 3 ∨ m = 4 ∨ m = 5 ∨ m = 6 ∨ m = 7) with rfl | rfl | rfl | rfl | rfl | rfl | rfl | rfl <;> decide
  rw [e]
  exact u8_or_nat x _ hx (Nat.lt_of_le_of_lt (Nat.pow_le_pow_right (by omega) (by omega : 7 - m ≤ 7)) (by decide))

set_option maxHeartbeats 400000 in
theorem specAZFull (A : Option Addr) (n c : Nat) (l : List Bool) (w : World) (hR : Rd w A n (l.map Value.bool)) (hn : n ≤ 100000) :
    Calls Try.prog 12 #[.slice A n c] w (BytesOut (packed l) w) := by
  have hl : l.length = n := by simpa using hR.1
  obtain ⟨i0, hi, hz0, hz1, hz2⟩ := info_parts info5
  have hmk := run_make (P := Try.prog) w 29 5 i0 (.int .u8 0) Try.underlying29 hi hz0 .i64 .i64 (((n : Int) + 7) / 8) (((n : Int) + 7) / 8) (by omega) (by omega) (by rw [hz2]; omega) (by omega)
  rw [hz1] at hmk
  have HL := hid hl
  clear hl hz0 hz1 hz2 hi
  go_enter Try.func12, Try.ntmps12
  go_wp2
  have hA : Arr (w.alloc (.cells (madeCells #[.int .u8 0] ((n + 7) / 8)) 5)) w.heap.size 5 ((packedTo l 0).map fun x => Value.int .u8 (x : Nat)) := by
    have := Arr.made w 5 (.int .u8 0) ((n + 7) / 8)
    rw [packedTo_zero, HL.out]
    simpa using this
  have hB : Below w.heap.size w (w.alloc (.cells (madeCells #[.int .u8 0] ((n + 7) / 8)) 5)) := (Below.refl _ _).alloc (Nat.le_refl _) _
  generalize w.alloc (.cells (madeCells #[.int .u8 0] ((n + 7) / 8)) 5) = w1 at hA hB ⊢
  clear hmk
  go_loopw [4] (fun i wr => ∃ k : Nat, k ≤ n ∧ i = .int .i64 k ∧ Arr wr w.heap.size 5 ((packedTo l k).map fun x => Value.int .u8 (x : Nat)) ∧ Below w.heap.size w wr) (fun i _ => n - (intOf i).toNat)
  case atStart => exact ⟨0, Nat.zero_le _, rfl, hA, hB⟩
  case round =>
    obtain ⟨k, hk, rfl, hA, hB⟩ := hrel
    by_cases hlt : k < n
    · have hl' : (k : Int) < (n : Int) := by omega
      obtain ⟨b, o, rfl, hc1⟩ := rd_bool (hR.below hB) k hlt
      cases hbt : l.getD k false
      · rw [hbt] at hc1
        have HS := hid (packedTo_skip l k hbt)
        clear hbt
        go_wp2
        go_roundw
        case rel => exact ⟨k + 1, by omega, by go_num, by rw [HS.out]; exact hA, hB⟩
        case measure => simp [intOf]; omega
      · rw [hbt] at hc1
        have HS := hid (packedTo_step l k hbt)
        clear hbt
        have hf := hA.frozen (k / 8)
        have hc2 := hA.cell? (k / 8)
        rw [List.getElem?_map, packedTo_getD l k (k / 8) (by rw [HL.out]; omega)] at hc2
        simp only [Option.map_some] at hc2
        have hb8 := bitsVal_lt8 (l.take k) (8 * (k / 8))
        go_wp2
        go_roundw
        case rel => 
          refine ⟨k + 1, by omega, by go_num, ?_, hB.setCell (Nat.le_refl _) _⟩
          rw [u8_or_bit _ (k % 8) hb8 (by omega)]
          have h := hA.set (k / 8) (.int .u8 ((bitsVal (List.take k l) (8 * (k / 8)) 8 ||| 2 ^ (7 - k % 8) : Nat)))
          rw [← List.map_set, HS.out] at h
          exact h
        case measure => simp [intOf]; omega
    · obtain rfl : k = n := by omega
      go_wp2_with fail
      go_ret
      have e := packedTo_all l
      rw [HL.out] at e
      rw [e] at hA
      have hr := Rd.of_arr hA
      simp only [List.length_map] at hr
      have e := packed_length l
      rw [HL.out] at e
      exact ⟨_, (k + 7) / 8, by rw [e]; rfl, hr, hB⟩
end Go.Proofs.Ytifegijnhlbedaa
