/- spec.dmDigit, dmX12, DMMixed255, DMInMode, DMAsciiWords. -/
import Derived.Test.YtfmjkflihnfneaaDoorDnA
namespace Go.Proofs.YtfmjkflihnfneaaDoor
open Go.RowKit
set_option linter.unusedVariables false
set_option linter.unusedSimpArgs false

theorem str_at (l : List Nat) (h256 : ∀ c ∈ l, c < 256) (i : Nat) (hi : i < (strOf l).size) : ((strOf l)[i]'hi).toNat = l.getD i 0 := by
  have hl : i < l.length := by rwa [strOf_size] at hi
  have e : (strOf l)[i]'hi = UInt8.ofNat (l[i]'hl) := by
    show (strOf l).data[i]'_ = _
    simp [strOf]
  rw [e, UInt8.toNat_ofNat_of_lt' (h256 _ (List.getElem_mem hl)), List.getD, List.getElem?_eq_getElem hl]
  rfl
theorem getD_lt (l : List Nat) (h : ∀ c ∈ l, c < 256) (i : Nat) : l.getD i 0 < 256 := by
  rcases Nat.lt_or_ge i l.length with h1 | h1
  · rw [List.getD, List.getElem?_eq_getElem h1]; exact h _ (List.getElem_mem h1)
  · rw [List.getD, List.getElem?_eq_none h1]; decide

theorem digitM (c : Nat) (hc : c < 256) (w : World) : Calls Tryd.prog 43 #[.int .u8 (c : Nat)] w (fun e w' => e = .returned (.bool (isDig c)) ∧ w = w') := by
  unfold isDig
  by_cases h1 : 48 ≤ c
  · have h1' : decide ((48 : Int) ≤ (c : Int)) = true := by simp; omega
    by_cases h2 : c ≤ 57
    · have h2' : decide ((c : Int) ≤ 57) = true := by simp; omega
      go_enter Tryd.func43, Tryd.ntmps43
      go_wp2_with fail
      go_ret
      exact ⟨by simp [h1, h2], rfl⟩
    · have h2' : decide ((c : Int) ≤ 57) = false := by simp; omega
      go_enter Tryd.func43, Tryd.ntmps43
      go_wp2_with fail
      go_ret
      exact ⟨by simp [h1, h2], rfl⟩
  · have h1' : decide ((48 : Int) ≤ (c : Int)) = false := by simp; omega
    go_enter Tryd.func43, Tryd.ntmps43
    go_wp2_with fail
    go_ret
    exact ⟨by simp [h1], rfl⟩

def x12R (c : Nat) : Int := if x12Ok c = true then (x12V c : Nat) else -1
set_option maxHeartbeats 1000000 in
theorem x12M (c : Nat) (hc : c < 256) (w : World) : Calls Tryd.prog 19 #[.int .u8 (c : Nat)] w (fun e w' => e = .returned (.int .i64 (x12R c)) ∧ w = w') := by
  by_cases a1 : c = 13
  · subst a1
    go_enter Tryd.func19, Tryd.ntmps19
    go_wp2_with fail
    go_ret
    exact ⟨rfl, rfl⟩
  by_cases a2 : c = 42
  · subst a2
    go_enter Tryd.func19, Tryd.ntmps19
    go_wp2_with fail
    go_ret
    exact ⟨rfl, rfl⟩
  by_cases a3 : c = 62
  · subst a3
    go_enter Tryd.func19, Tryd.ntmps19
    go_wp2_with fail
    go_ret
    exact ⟨rfl, rfl⟩
  by_cases a4 : c = 32
  · subst a4
    go_enter Tryd.func19, Tryd.ntmps19
    go_wp2_with fail
    go_ret
    exact ⟨rfl, rfl⟩
  have b1 : ¬ (c : Int) = 13 := by omega
  have b2 : ¬ (c : Int) = 42 := by omega
  have b3 : ¬ (c : Int) = 62 := by omega
  have b4 : ¬ (c : Int) = 32 := by omega
  have HD := hid (digitM c hc w)
  by_cases a5 : isDig c = true
  · have hd : 48 ≤ c ∧ c ≤ 57 := by simpa [isDig] using a5
    have e : x12R c = (c : Int) - 44 := by
      unfold x12R x12V x12Ok
      rw [a5]
      simp [a1, a2, a3, a4]
      omega
    rw [e]
    rw [a5] at HD
    obtain ⟨h1, h2⟩ := hd
    clear e a5
    go_enter Tryd.func19, Tryd.ntmps19
    go_wp2_with (go_at_call 43; ((with_reducible refine HD.out.mono ?_); rintro e w' ⟨rfl, rfl⟩))
    go_ret
    exact ⟨by go_num, rfl⟩
  rw [Bool.not_eq_true] at a5
  rw [a5] at HD
  by_cases a6 : 65 ≤ c ∧ c ≤ 90
  · have e : x12R c = (c : Int) - 51 := by
      unfold x12R x12V x12Ok
      rw [a5]
      simp [a1, a2, a3, a4, a6]
      omega
    rw [e]
    obtain ⟨h1, h2⟩ := a6
    have h1' : decide ((65 : Int) ≤ (c : Int)) = true := by simp; omega
    have h2' : decide ((c : Int) ≤ 90) = true := by simp; omega
    clear e a5
    go_enter Tryd.func19, Tryd.ntmps19
    go_wp2_with (go_at_call 43; ((with_reducible refine HD.out.mono ?_); rintro e w' ⟨rfl, rfl⟩))
    go_ret
    exact ⟨by go_num, rfl⟩
  · have e : x12R c = -1 := by
      unfold x12R x12Ok
      rw [a5]
      simp [a1, a2, a3, a4]
      omega
    rw [e]
    clear e a5
    by_cases h1 : 65 ≤ c
    · have h1' : decide ((65 : Int) ≤ (c : Int)) = true := by simp; omega
      have h2' : decide ((c : Int) ≤ 90) = false := by simp; omega
      go_enter Tryd.func19, Tryd.ntmps19
      go_wp2_with (go_at_call 43; ((with_reducible refine HD.out.mono ?_); rintro e w' ⟨rfl, rfl⟩))
      go_ret
      exact ⟨rfl, rfl⟩
    · have h1' : decide ((65 : Int) ≤ (c : Int)) = false := by simp; omega
      go_enter Tryd.func19, Tryd.ntmps19
      go_wp2_with (go_at_call 43; ((with_reducible refine HD.out.mono ?_); rintro e w' ⟨rfl, rfl⟩))
      go_ret
      exact ⟨rfl, rfl⟩
theorem mixM (c p : Nat) (hc : c < 256) (hp : p ≤ 1000000) (w : World) : Calls Tryd.prog 44 #[.int .u8 (c : Nat), .int .i64 (p : Nat)] w (fun e w' => e = .returned (.int .u8 (mix c p : Nat)) ∧ w = w') := by
  have e0 : 149 * (p : Int) % 255 = ((149 * p % 255 : Nat) : Int) := by rw [Int.natCast_emod, Int.natCast_mul]; rfl
  have e : ((c : Int) + 149 * (p : Int) % 255 + 1) % 256 = (mix c p : Nat) := by
    rw [e0]
    unfold mix
    generalize 149 * p % 255 = q
    omega
  clear e0
  have hm : mix c p < 256 := Nat.mod_lt _ (by decide)
  go_enter Tryd.func44, Tryd.ntmps44
  go_wp2_with fail
  go_ret
  exact ⟨by first | rfl | go_num, rfl⟩

/-- A byte that a mode has. -/
def chOk (m : Int) (c : Nat) : Bool := decide (c ≤ 127) && (!(m == 3) || x12Ok c) && (!(m == 4) || (decide (32 ≤ c) && decide (c ≤ 94)))
def inModeZ (m : Int) (l : List Nat) : Bool := l.all (chOk m) && (decide (0 ≤ m) && decide (m ≤ 5))
theorem inModeZ_nat (m : Nat) (l : List Nat) (h : inModeZ (m : Nat) l = true) : inMode m l = true := by
  simp only [inModeZ, Bool.and_eq_true, decide_eq_true_eq] at h
  simp only [inMode, Bool.and_eq_true, decide_eq_true_eq]
  refine ⟨by omega, ?_⟩
  rw [← h.1]
  congr 1
  funext c
  unfold chOk
  have e3 : ((m : Int) == 3) = (m == 3) := by rw [Bool.eq_iff_iff]; simp; omega
  have e4 : ((m : Int) == 4) = (m == 4) := by rw [Bool.eq_iff_iff]; simp; omega
  rw [e3, e4]
theorem take_all (f : Nat → Bool) (l : List Nat) (i : Nat) (hi : i < l.length) : (l.take (i + 1)).all f = ((l.take i).all f && f (l.getD i 0)) := by
  rw [List.take_succ_eq_append_getElem hi, List.all_append, List.getD, List.getElem?_eq_getElem hi]
  simp
theorem all_not (f : Nat → Bool) (l : List Nat) (i : Nat) (hi : i < l.length) (h : f (l.getD i 0) = false) : l.all f = false := by
  rw [List.all_eq_false]
  exact ⟨l.getD i 0, by rw [List.getD, List.getElem?_eq_getElem hi]; exact List.getElem_mem hi, by rw [h]; simp⟩

set_option maxRecDepth 20000 in
set_option maxHeartbeats 4000000 in
theorem inModeM (m : Int) (l : List Nat) (h256 : ∀ c ∈ l, c < 256) (hl : l.length ≤ 9223372036854775807) (w : World) :
    Calls Tryd.prog 14 #[.int .i64 m, .string (strOf l)] w (fun e w' => e = .returned (.bool (inModeZ m l)) ∧ w = w') := by
  have hsz := strOf_size l
  have HAT := hid (fun i hi => str_at l h256 i hi)
  have HLT := hid (fun i => getD_lt l h256 i)
  obtain ⟨N, hN⟩ : ∃ N, N = l.length := ⟨_, rfl⟩
  rw [← hN] at hsz hl
  have HN := hid hN
  obtain ⟨st, hst⟩ : ∃ st, st = strOf l := ⟨_, rfl⟩
  rw [← hst] at hsz HAT ⊢
  obtain ⟨R, hR⟩ : ∃ R, R = inModeZ m l := ⟨_, rfl⟩
  rw [← hR]
  have HR := hid hR
  clear hst hN hR h256
  go_enter Tryd.func14, Tryd.ntmps14
  go_wp2_with fail
  go_loop [9] (fun iv => ∃ i : Nat, i ≤ N ∧ iv = .int .i64 (i : Nat) ∧ Hid ((l.take i).all (chOk m) = true)) (fun iv => N - (intOf iv).toNat)
  case atStart => exact ⟨0, by omega, rfl, hid rfl⟩
  case round =>
    obtain ⟨i, hi, rfl, HOK⟩ := hrel
    by_cases hlt : i < N
    case neg =>
      obtain rfl : i = N := by omega
      have hlt' : ¬ (i : Int) < (i : Int) := by omega
      have hall : l.all (chOk m) = true := by have := HOK.out; rwa [HN.out, List.take_length] at this
      have hRR : R = (decide (0 ≤ m) && decide (m ≤ 5)) := by rw [HR.out, inModeZ, hall, Bool.true_and]
      have HRR := hid hRR
      clear hall hRR
      by_cases m0 : 0 ≤ m
      · have m0' : decide ((0 : Int) ≤ m) = true := by simpa using m0
        by_cases m5 : m ≤ 5
        · have m5' : decide (m ≤ (5 : Int)) = true := by simpa using m5
          go_wp2_with fail
          go_ret
          exact ⟨by rw [HRR.out]; simp [m0, m5], rfl⟩
        · have m5' : decide (m ≤ (5 : Int)) = false := by simpa using m5
          go_wp2_with fail
          go_ret
          exact ⟨by rw [HRR.out]; simp [m0, m5], rfl⟩
      · have m0' : decide ((0 : Int) ≤ m) = false := by simpa using m0
        go_wp2_with fail
        go_ret
        exact ⟨by rw [HRR.out]; simp; omega, rfl⟩
    case pos =>
      have hlt' : (i : Int) < (N : Int) := by omega
      have his : i < st.size := by omega
      have hx := HAT.out i his
      have hx256 := HLT.out i
      have HTA := hid (take_all (chOk m) l i (by rw [← HN.out]; exact hlt))
      have HNO := hid (all_not (chOk m) l i (by rw [← HN.out]; exact hlt))
      generalize l.getD i 0 = x at *
      have HX := hid (fun W => x12M x hx256 W)
      have good : chOk m x = true → Hid ((l.take (i + 1)).all (chOk m) = true) := fun h => by rw [Hid, HTA.out, HOK.out, h]; rfl
      have bad : chOk m x = false → R = false := fun h => by rw [HR.out, inModeZ, HNO.out h, Bool.false_and]
      have GOOD := hid good
      have BAD := hid bad
      clear good bad HTA HNO HOK
      by_cases h127 : 127 < x
      · have d1 : decide ((127 : Int) < (x : Int)) = true := by simp; omega
        have HC := hid (show chOk m x = false by unfold chOk; simp; intro a; omega)
        go_wp2_with (first | (go_at_call 19; ((with_reducible refine (HX.out _).mono ?_); rintro e w' ⟨rfl, rfl⟩)))
        go_ret
        exact ⟨by rw [BAD.out HC.out]; rfl, rfl⟩
      have d1 : decide ((127 : Int) < (x : Int)) = false := by simp; omega
      by_cases m3 : m = 3
      · subst m3
        by_cases hok : x12Ok x = true
        · have hxr : x12R x = (x12V x : Nat) := by unfold x12R; rw [if_pos hok]
          rw [hxr] at HX
          have HC := hid (show chOk 3 x = true by unfold chOk; simp [hok]; try omega)
          have hge : decide (((x12V x : Nat) : Int) < 0) = false := by simp
          clear hxr hok
          generalize x12V x = xv at *
          go_wp2_with (first | (go_at_call 19; ((with_reducible refine (HX.out _).mono ?_); rintro e w' ⟨rfl, rfl⟩)))
          go_round
          case rel => exact ⟨i + 1, by omega, by go_num, GOOD.out HC.out⟩
          case measure => simp [intOf]; omega
        · rw [Bool.not_eq_true] at hok
          have hxr : x12R x = -1 := by unfold x12R; rw [if_neg (by rw [hok]; simp)]
          rw [hxr] at HX
          have HC := hid (show chOk 3 x = false by unfold chOk; simp [hok])
          clear hxr hok
          go_wp2_with (first | (go_at_call 19; ((with_reducible refine (HX.out _).mono ?_); rintro e w' ⟨rfl, rfl⟩)))
          go_ret
          exact ⟨by rw [BAD.out HC.out]; rfl, rfl⟩
      have m3' : (m == 3) = false := by simpa using m3
      by_cases m4 : m = 4
      · subst m4
        by_cases h32 : x < 32
        · have d2 : decide ((x : Int) < 32) = true := by simp; omega
          have HC := hid (show chOk 4 x = false by unfold chOk; simp; intro a; omega)
          go_wp2_with (first | (go_at_call 19; ((with_reducible refine (HX.out _).mono ?_); rintro e w' ⟨rfl, rfl⟩)))
          go_ret
          exact ⟨by rw [BAD.out HC.out]; rfl, rfl⟩
        · have d2 : decide ((x : Int) < 32) = false := by simp; omega
          by_cases h94 : 94 < x
          · have d3 : decide ((94 : Int) < (x : Int)) = true := by simp; omega
            have HC := hid (show chOk 4 x = false by unfold chOk; simp; intro a b; omega)
            go_wp2_with (first | (go_at_call 19; ((with_reducible refine (HX.out _).mono ?_); rintro e w' ⟨rfl, rfl⟩)))
            go_ret
            exact ⟨by rw [BAD.out HC.out]; rfl, rfl⟩
          · have d3 : decide ((94 : Int) < (x : Int)) = false := by simp; omega
            have HC := hid (show chOk 4 x = true by unfold chOk; simp; try omega)
            go_wp2_with (first | (go_at_call 19; ((with_reducible refine (HX.out _).mono ?_); rintro e w' ⟨rfl, rfl⟩)))
            go_round
            case rel => exact ⟨i + 1, by omega, by go_num, GOOD.out HC.out⟩
            case measure => simp [intOf]; omega
      · have m4' : (m == 4) = false := by simpa using m4
        have HC := hid (show chOk m x = true by unfold chOk; rw [m3', m4']; simp; try omega)
        go_wp2_with (first | (go_at_call 19; ((with_reducible refine (HX.out _).mono ?_); rintro e w' ⟨rfl, rfl⟩)))
        go_round
        case rel => exact ⟨i + 1, by omega, by go_num, GOOD.out HC.out⟩
        case measure => simp [intOf]; omega
end Go.Proofs.YtfmjkflihnfneaaDoor
