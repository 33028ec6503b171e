/- The reader's parts: readCode, the tables, getCharacter, getTable, HasPrefix. -/
import Derived.Test.YtliephokeafllaaGreatDoorAzI
import Derived.Test.YtliephokeafllaaGreatDoorAzR
namespace Go.Proofs.YtliephokeafllaaGreatDoor
open Go.RowKit
set_option linter.unusedVariables false
set_option linter.unusedSimpArgs false

theorem codeAt_lt (b : List Bool) (i : Nat) : ∀ n, codeAt b i n < 2 ^ n
  | 0 => by simp [codeAt]
  | n + 1 => by
    have := codeAt_lt b i n
    rw [codeAt, Nat.pow_succ]
    split <;> omega
set_option maxRecDepth 20000 in
set_option maxHeartbeats 2000000 in
theorem readCodeM (A : Option Addr) (n c : Nat) (l : List Bool) (s m : Nat) (w : World) (hR : Rd w A n (l.map Value.bool)) (hn : n ≤ 1000000) (hsm : s + m ≤ n) (hm : m ≤ 12) :
    Calls Tryz.prog 64 #[.slice A n c, .int .i64 (s : Nat), .int .i64 (m : Nat)] w fun e w' => e = .returned (.int .i64 (codeAt l s m : Nat)) ∧ w = w' := by
  have HR := hid hR
  clear hR
  obtain ⟨T, hT⟩ : ∃ T, T = s + m := ⟨_, rfl⟩
  have e1 : (s : Int) + (m : Int) = (T : Nat) := by omega
  have t1 : T ≤ s + m := by omega
  have t2 : s + m ≤ T := by omega
  clear hT
  go_enter Tryz.func64, Tryz.ntmps64
  go_wp2_with fail
  go_loop [7, 8] (fun rv iv => ∃ i k : Nat, k ≤ m ∧ i ≤ s + k ∧ s + k ≤ i ∧ iv = .int .i64 (i : Nat) ∧ rv = .int .i64 (codeAt l s k : Nat)) (fun _ iv => T - (intOf iv).toNat)
  case atStart => exact ⟨s, 0, by omega, by omega, by omega, rfl, rfl⟩
  case round =>
    obtain ⟨i, k, hk, hi1, hi2, rfl, rfl⟩ := hrel
    have hlt := codeAt_lt l s k
    have hpow : 2 ^ k ≤ 2 ^ 12 := Nat.pow_le_pow_right (by decide) (by omega)
    have hq : codeAt l s k ≤ 4096 := by omega
    have HNX := hid (show codeAt l s (k + 1) = 2 * codeAt l s k + (if l.getD (s + k) false then 1 else 0) from rfl)
    clear hlt hpow
    obtain ⟨q, hqe⟩ : ∃ q, q = codeAt l s k := ⟨_, rfl⟩
    rw [← hqe] at HNX hq ⊢
    by_cases h1 : k < m
    · have h1' : (i : Int) < (T : Int) := by omega
      obtain ⟨b1, o1, rfl, _, hc1⟩ := rd_bool HR.out i (by omega)
      have hsk : s + k = i := by omega
      rw [hsk] at HNX
      have h_or := i64_or_one q (by omega)
      clear hqe hsk
      generalize hv : l.getD i false = v at *
      have HV := hid hv
      clear hv
      cases v
      · have HNY := hid (show codeAt l s (k + 1) = 2 * q by have := HNX.out; simpa using this)
        clear HNX
        go_wp2_with fail
        go_round
        case rel => exact ⟨i + 1, k + 1, by omega, by omega, by omega, by go_num, by rw [HNY.out]; go_num⟩
        case measure => simp [intOf]; omega
      · have HNY := hid (show codeAt l s (k + 1) = 2 * q + 1 by have := HNX.out; simpa using this)
        clear HNX
        go_wp2_with fail
        go_round
        case rel => exact ⟨i + 1, k + 1, by omega, by omega, by omega, by go_num, by rw [HNY.out]; go_num⟩
        case measure => simp [intOf]; omega
    · obtain rfl : k = m := by omega
      have h1' : ¬ (i : Int) < (T : Int) := by omega
      go_wp2_with fail
      go_ret
      exact ⟨rfl, rfl⟩

/-- The table of a letter. -/
theorem letTabM (x : Nat) (hx : x < 256) (w : World) : Calls Tryz.prog 72 #[.int .u8 (x : Nat)] w (fun e w' => e = .returned (.int .i64 (letTab x : Nat)) ∧ w = w') := by
  unfold letTab
  by_cases h1 : x = 76
  · subst h1
    go_enter Tryz.func72, Tryz.ntmps72
    go_wp2_with fail
    go_ret
    exact ⟨rfl, rfl⟩
  by_cases h2 : x = 80
  · subst h2
    go_enter Tryz.func72, Tryz.ntmps72
    go_wp2_with fail
    go_ret
    exact ⟨rfl, rfl⟩
  by_cases h3 : x = 77
  · subst h3
    go_enter Tryz.func72, Tryz.ntmps72
    go_wp2_with fail
    go_ret
    exact ⟨rfl, rfl⟩
  by_cases h4 : x = 68
  · subst h4
    go_enter Tryz.func72, Tryz.ntmps72
    go_wp2_with fail
    go_ret
    exact ⟨rfl, rfl⟩
  by_cases h5 : x = 66
  · subst h5
    go_enter Tryz.func72, Tryz.ntmps72
    go_wp2_with fail
    go_ret
    exact ⟨rfl, rfl⟩
  have k1 : ¬ (x : Int) = 76 := by omega
  have k2 : ¬ (x : Int) = 80 := by omega
  have k3 : ¬ (x : Int) = 77 := by omega
  have k4 : ¬ (x : Int) = 68 := by omega
  have k5 : ¬ (x : Int) = 66 := by omega
  by_cases h6 : x = 85
  · subst h6
    go_enter Tryz.func72, Tryz.ntmps72
    go_wp2_with fail
    go_ret
    exact ⟨rfl, rfl⟩
  have k6 : ¬ (x : Int) = 85 := by omega
  go_enter Tryz.func72, Tryz.ntmps72
  go_wp2_with fail
  go_ret
  exact ⟨by simp [h1, h2, h3, h4, h5], rfl⟩

/-- One of the reader's tables, in new memory. -/
def TabOut (l : List (List Nat)) (w : World) (e : Ending) (w' : World) : Prop :=
  e = .returned (.slice (some ⟨w.heap.size, 0, none⟩) l.length l.length) ∧ Arr w' w.heap.size 9 (strs l) ∧ Below w.heap.size w w'
set_option maxRecDepth 20000 in
set_option maxHeartbeats 2000000 in
theorem tabM0 (w : World) : Calls Tryz.prog 99 #[] w (TabOut (rdTab 0) w) := by
  have fin : ∀ (a : Array Value) (e : Ending), a.toList = strs (rdTab 0) → e = .returned (.slice (some ⟨w.heap.size, 0, none⟩) (rdTab 0).length (rdTab 0).length) → TabOut (rdTab 0) w e (w.alloc (.cells a 9)) := by
    intro a e ha he
    refine ⟨he, ?_, (Below.refl _ _).alloc (Nat.le_refl _) _⟩
    have := Arr.of_new w 9 a
    rwa [ha] at this
  have FIN := hid fin
  clear fin
  go_enter Tryz.func99, Tryz.ntmps99
  go_wp2_with fail
  go_ret
  exact FIN.out _ _ (by kernel_rfl) rfl
set_option maxRecDepth 20000 in
set_option maxHeartbeats 2000000 in
theorem tabM1 (w : World) : Calls Tryz.prog 100 #[] w (TabOut (rdTab 1) w) := by
  have fin : ∀ (a : Array Value) (e : Ending), a.toList = strs (rdTab 1) → e = .returned (.slice (some ⟨w.heap.size, 0, none⟩) (rdTab 1).length (rdTab 1).length) → TabOut (rdTab 1) w e (w.alloc (.cells a 9)) := by
    intro a e ha he
    refine ⟨he, ?_, (Below.refl _ _).alloc (Nat.le_refl _) _⟩
    have := Arr.of_new w 9 a
    rwa [ha] at this
  have FIN := hid fin
  clear fin
  go_enter Tryz.func100, Tryz.ntmps100
  go_wp2_with fail
  go_ret
  exact FIN.out _ _ (by kernel_rfl) rfl
set_option maxRecDepth 20000 in
set_option maxHeartbeats 2000000 in
theorem tabM2 (w : World) : Calls Tryz.prog 101 #[] w (TabOut (rdTab 2) w) := by
  have fin : ∀ (a : Array Value) (e : Ending), a.toList = strs (rdTab 2) → e = .returned (.slice (some ⟨w.heap.size, 0, none⟩) (rdTab 2).length (rdTab 2).length) → TabOut (rdTab 2) w e (w.alloc (.cells a 9)) := by
    intro a e ha he
    refine ⟨he, ?_, (Below.refl _ _).alloc (Nat.le_refl _) _⟩
    have := Arr.of_new w 9 a
    rwa [ha] at this
  have FIN := hid fin
  clear fin
  go_enter Tryz.func101, Tryz.ntmps101
  go_wp2_with fail
  go_ret
  exact FIN.out _ _ (by kernel_rfl) rfl
set_option maxRecDepth 20000 in
set_option maxHeartbeats 2000000 in
theorem tabM3 (w : World) : Calls Tryz.prog 103 #[] w (TabOut (rdTab 3) w) := by
  have fin : ∀ (a : Array Value) (e : Ending), a.toList = strs (rdTab 3) → e = .returned (.slice (some ⟨w.heap.size, 0, none⟩) (rdTab 3).length (rdTab 3).length) → TabOut (rdTab 3) w e (w.alloc (.cells a 9)) := by
    intro a e ha he
    refine ⟨he, ?_, (Below.refl _ _).alloc (Nat.le_refl _) _⟩
    have := Arr.of_new w 9 a
    rwa [ha] at this
  have FIN := hid fin
  clear fin
  go_enter Tryz.func103, Tryz.ntmps103
  go_wp2_with fail
  go_ret
  exact FIN.out _ _ (by kernel_rfl) rfl
set_option maxRecDepth 20000 in
set_option maxHeartbeats 2000000 in
theorem tabM4 (w : World) : Calls Tryz.prog 102 #[] w (TabOut (rdTab 4) w) := by
  have fin : ∀ (a : Array Value) (e : Ending), a.toList = strs (rdTab 4) → e = .returned (.slice (some ⟨w.heap.size, 0, none⟩) (rdTab 4).length (rdTab 4).length) → TabOut (rdTab 4) w e (w.alloc (.cells a 9)) := by
    intro a e ha he
    refine ⟨he, ?_, (Below.refl _ _).alloc (Nat.le_refl _) _⟩
    have := Arr.of_new w 9 a
    rwa [ha] at this
  have FIN := hid fin
  clear fin
  go_enter Tryz.func102, Tryz.ntmps102
  go_wp2_with fail
  go_ret
  exact FIN.out _ _ (by kernel_rfl) rfl

theorem tabM (t : Nat) (ht : t ≤ 4) : ∃ f, (t = 0 ∧ f = 99 ∨ t = 1 ∧ f = 100 ∨ t = 2 ∧ f = 101 ∨ t = 3 ∧ f = 103 ∨ t = 4 ∧ f = 102) ∧ ∀ w, Calls Tryz.prog f #[] w (TabOut (rdTab t) w) := by
  have : t = 0 ∨ t = 1 ∨ t = 2 ∨ t = 3 ∨ t = 4 := by omega
  rcases this with rfl | rfl | rfl | rfl | rfl
  · exact ⟨99, by simp, tabM0⟩
  · exact ⟨100, by simp, tabM1⟩
  · exact ⟨101, by simp, tabM2⟩
  · exact ⟨103, by simp, tabM3⟩
  · exact ⟨102, by simp, tabM4⟩
theorem rdTab_len (t : Nat) (ht : t ≤ 4) : (rdTab t).length = 2 ^ rdSize t := by
  have : t = 0 ∨ t = 1 ∨ t = 2 ∨ t = 3 ∨ t = 4 := by omega
  rcases this with rfl | rfl | rfl | rfl | rfl <;> rfl
/-- A string of a table. -/
def CharOut (l : List Nat) (w : World) (e : Ending) (w' : World) : Prop := e = .returned (.tuple #[.string (strOf l), .nilIface]) ∧ Below w.heap.size w w'
set_option maxRecDepth 20000 in
set_option maxHeartbeats 4000000 in
theorem charM (t v : Nat) (ht : t ≤ 4) (hv : v < 2 ^ rdSize t) (w : World) : Calls Tryz.prog 69 #[.int .i64 (t : Nat), .int .i64 (v : Nat)] w (CharOut ((rdTab t).getD v []) w) := by
  have hlen := rdTab_len t ht
  obtain ⟨N, hN⟩ : ∃ N, N = (rdTab t).length := ⟨_, rfl⟩
  have hN32 : N ≤ 32 := by rw [hN, hlen]; unfold rdSize; split <;> decide
  have hvN : v < N := by rw [hN, hlen]; exact hv
  have HC := hid (show ∀ w1 g, Arr w1 g 9 (strs (rdTab t)) → w1.cell? ⟨g, v, none⟩ = some (.string (strOf ((rdTab t).getD v []))) from fun w1 g h => by
    rw [h.cell v (by rw [strs_len, ← hN]; exact hvN)]
    simp only [strs, List.getElem_map]
    rw [List.getD, List.getElem?_eq_getElem (by rw [← hN]; exact hvN)]
    rfl)
  have hvN' : ¬ (N : Int) ≤ (v : Int) := by omega
  have this : t = 0 ∨ t = 1 ∨ t = 2 ∨ t = 3 ∨ t = 4 := by omega
  rcases this with h | h | h | h | h
  · subst h
    have HT := hid (tabM0 w)
    unfold TabOut at HT
    rw [← hN] at HT
    clear hlen hN ht hv
    generalize rdTab 0 = tb at *
    go_enter Tryz.func69, Tryz.ntmps69
    go_wp2_with fail
    refine HT.out.mono ?_
    rintro e w1 ⟨rfl, hA, hB⟩
    have hc := HC.out w1 _ hA
    have HB := hid hB
    clear hA hB HT HC
    go_wp2_with fail
    go_ret2
    exact ⟨rfl, HB.out⟩
  · subst h
    have HT := hid (tabM1 w)
    unfold TabOut at HT
    rw [← hN] at HT
    clear hlen hN ht hv
    generalize rdTab 1 = tb at *
    go_enter Tryz.func69, Tryz.ntmps69
    go_wp2_with fail
    refine HT.out.mono ?_
    rintro e w1 ⟨rfl, hA, hB⟩
    have hc := HC.out w1 _ hA
    have HB := hid hB
    clear hA hB HT HC
    go_wp2_with fail
    go_ret2
    exact ⟨rfl, HB.out⟩
  · subst h
    have HT := hid (tabM2 w)
    unfold TabOut at HT
    rw [← hN] at HT
    clear hlen hN ht hv
    generalize rdTab 2 = tb at *
    go_enter Tryz.func69, Tryz.ntmps69
    go_wp2_with fail
    refine HT.out.mono ?_
    rintro e w1 ⟨rfl, hA, hB⟩
    have hc := HC.out w1 _ hA
    have HB := hid hB
    clear hA hB HT HC
    go_wp2_with fail
    go_ret2
    exact ⟨rfl, HB.out⟩
  · subst h
    have HT := hid (tabM3 w)
    unfold TabOut at HT
    rw [← hN] at HT
    clear hlen hN ht hv
    generalize rdTab 3 = tb at *
    go_enter Tryz.func69, Tryz.ntmps69
    go_wp2_with fail
    refine HT.out.mono ?_
    rintro e w1 ⟨rfl, hA, hB⟩
    have hc := HC.out w1 _ hA
    have HB := hid hB
    clear hA hB HT HC
    go_wp2_with fail
    go_ret2
    exact ⟨rfl, HB.out⟩
  · subst h
    have HT := hid (tabM4 w)
    unfold TabOut at HT
    rw [← hN] at HT
    clear hlen hN ht hv
    generalize rdTab 4 = tb at *
    go_enter Tryz.func69, Tryz.ntmps69
    go_wp2_with fail
    refine HT.out.mono ?_
    rintro e w1 ⟨rfl, hA, hB⟩
    have hc := HC.out w1 _ hA
    have HB := hid hB
    clear hA hB HT HC
    go_wp2_with fail
    go_ret2
    exact ⟨rfl, HB.out⟩
end Go.Proofs.YtliephokeafllaaGreatDoor
