/- rvMany, RVSum, RVValue: the walks. -/
import Derived.Test.YtifegijnhlbedaaRvA
namespace Go.Proofs.Ytifegijnhlbedaa
open Go.RowKit
set_option linter.unusedVariables false

set_option maxHeartbeats 1000000 in
theorem rvMany (most : Nat) (hm : most ≤ 8) : ∀ (k : Nat), k ≤ 3 → ∀ (s : Nat) (one : Bool) (w : World), s ≤ 20 → Calls Try.prog 28 #[.int .i64 k, .int .i64 s, .int .i64 most, .bool one] w fun e w' => e = .returned (.int .i64 (many most k s one : Nat)) ∧ w = w' := by
  intro k
  induction k with
  | zero =>
    intro _ s one w hs
    have E := hid (show many most 0 s one = if s = 0 ∧ one = false then 1 else 0 from rfl)
    generalize many most 0 s one = v at *
    by_cases h0 : s = 0
    · subst h0
      cases one
      all_goals
        go_enter Try.func28, Try.ntmps28
        go_wp2
        go_ret
        exact ⟨by rw [E.out]; rfl, rfl⟩
    · have h0' : ((s : Int) == 0) = false := by rw [beq_eq_false_iff_ne]; omega
      go_enter Try.func28, Try.ntmps28
      go_wp2
      go_ret
      exact ⟨by rw [E.out, if_neg (fun h => h0 h.1)]; rfl, rfl⟩
  | succ k ih =>
    intro hk s one w hs
    have E := hid (show many most (k + 1) s one = tot (fun w => many most k (s - w) (one && decide (1 < w))) (min most s) from rfl)
    have hf : ∀ v, many most k (s - v) (one && decide (1 < v)) ≤ 512 := fun v => Nat.le_trans (many_le most hm k _ _) (Nat.le_trans (Nat.pow_le_pow_right (by omega) (show k ≤ 3 by omega)) (by decide))
    have HF := hid hf
    have HT := hid (fun n => tot_le (fun w => many most k (s - w) (one && decide (1 < w))) 512 hf n)
    have HI := hid (fun x o W (h : x ≤ 20) => ih (by omega) x o W h)
    generalize many most (k + 1) s one = r at *
    have hf2 : ∀ v, many most k (s - v) (one && decide (1 < v)) = many most k (s - v) (one && decide (1 < v)) := fun v => rfl
    clear hf hf2 ih
    obtain ⟨F, hF⟩ : ∃ F, F = (fun w => many most k (s - w) (one && decide (1 < w))) := ⟨_, rfl⟩
    rw [← hF] at E HT
    have HFV := hid hF
    clear hF
    obtain ⟨m, hmn⟩ : ∃ m, m = min most s := ⟨_, rfl⟩
    rw [← hmn] at E
    have hml : m ≤ most := by omega
    have hms : m ≤ s := by omega
    have HM := hid hmn
    clear hmn
    have hk1 : (((k + 1 : Nat) : Int) == 0) = false := by rw [beq_eq_false_iff_ne]; omega
    obtain ⟨K, hK⟩ : ∃ K : Nat, K = k + 1 := ⟨_, rfl⟩
    rw [← hK] at hk1 ⊢
    have hK1 : (K : Int) - 1 = (k : Int) := by omega
    have hK3 : K ≤ 4 := by omega
    clear hK
    go_enter Try.func28, Try.ntmps28
    go_wp2
    go_loop [9, 10] (fun ov vv => ∃ v : Nat, 1 ≤ v ∧ v ≤ m + 1 ∧ ov = .int .i64 (tot F (v - 1) : Nat) ∧ vv = .int .i64 v) (fun _ vv => 30 - (intOf vv).toNat)
    case atStart => exact ⟨1, by omega, by omega, rfl, rfl⟩
    case round =>
      obtain ⟨v, hv1, hv2, rfl, rfl⟩ := hrel
      have ht := HT.out (v - 1)
      by_cases hlt : v ≤ m
      · have hle1 : (v : Int) ≤ (most : Int) := by omega
        have hle2 : (v : Int) ≤ (s : Int) := by omega
        have e1 : (s : Int) - (v : Int) = ((s - v : Nat) : Int) := by omega
        have hst : tot F (v - 1) + F v = tot F v := by
          obtain ⟨u, rfl⟩ : ∃ u, v = u + 1 := ⟨v - 1, by omega⟩
          rfl
        have hfv := HF.out v
        have hFv : F v = many most k (s - v) (one && decide (1 < v)) := by rw [HFV.out]
        rw [← hFv] at hfv
        have IH := fun W => HI.out (s - v) (one && decide (1 < v)) W (by omega)
        rw [← hFv] at IH
        have HFE := hid hFv
        clear hFv
        have HST := hid hst
        clear hst
        have htv : tot F (v - 1) ≤ 5000 := by have : (v - 1) * 512 ≤ 8 * 512 := Nat.mul_le_mul_right _ (by omega); omega
        clear ht
        generalize F v = x at *
        generalize tot F (v - 1) = t at *
        have fin : ∀ (b : Bool), (one && decide (1 < v)) = b → ∀ W, Calls Try.prog 28 #[.int .i64 (k : Int), .int .i64 ((s - v : Nat) : Int), .int .i64 most, .bool b] W fun e w' => e = .returned (.int .i64 (x : Nat)) ∧ W = w' := fun b hb W => by rw [← hb]; exact IH W
        have cases3 : (one = false ∧ (one && decide (1 < v)) = false) ∨ (one = true ∧ 1 < v ∧ (one && decide (1 < v)) = true) ∨ (one = true ∧ ¬ 1 < v ∧ (one && decide (1 < v)) = false) := by
          cases one
          · exact .inl ⟨rfl, rfl⟩
          · by_cases h : 1 < v
            · exact .inr (.inl ⟨rfl, h, by simp [h]⟩)
            · exact .inr (.inr ⟨rfl, h, by simp [h]⟩)
        clear IH
        rcases cases3 with ⟨h1, h2⟩ | ⟨h1, h3, h2⟩ | ⟨h1, h3, h2⟩
        all_goals
          have IH2 := fin _ h2
          clear fin h2
          subst h1
          try (have h4 : (1 : Int) < (v : Int) := by omega)
          try (have h5 : ¬ (1 : Int) < (v : Int) := by omega)
          go_wp2_with (go_at_call 28; refine (IH2 _).mono ?_; rintro e w' ⟨rfl, rfl⟩)
          go_round
          case rel => exact ⟨v + 1, by omega, by omega, by rw [Nat.add_sub_cancel, ← HST.out]; go_num, by go_num⟩
          case measure => simp [intOf]; omega
      · obtain rfl : v = m + 1 := by omega
        by_cases hmo : m = most
        · have hge : ¬ ((m + 1 : Nat) : Int) ≤ (most : Int) := by omega
          clear hmo
          go_wp2
          go_ret
          exact ⟨by rw [E.out]; rfl, rfl⟩
        · have hge : ¬ ((m + 1 : Nat) : Int) ≤ (s : Int) := by have := HM.out; omega
          have hle : ((m + 1 : Nat) : Int) ≤ (most : Int) := by omega
          go_wp2
          go_ret
          exact ⟨by rw [E.out]; rfl, rfl⟩

/-- A slice of small numbers that is read. -/
def RdN (w : World) (b o : Nat) (l : List Nat) : Prop := b < w.heap.size ∧ ∀ k, k < l.length → w.cell? ⟨b, o + k, none⟩ = some (.int .i64 (l.getD k 0 : Nat))

def sumN : List Nat → Nat
  | [] => 0
  | x :: r => x + sumN r
theorem sumN_drop (l : List Nat) (i : Nat) (h : i < l.length) : sumN (l.drop i) = l.getD i 0 + sumN (l.drop (i + 1)) := by
  rw [List.drop_eq_getElem_cons h, sumN]
  simp [List.getD, List.getElem?_eq_getElem h]
theorem sumN_le (l : List Nat) (h : ∀ x ∈ l, x ≤ 9) : sumN l ≤ 9 * l.length := by
  induction l with
  | nil => simp [sumN]
  | cons x r ih =>
    have := ih (fun y hy => h y (List.mem_cons_of_mem _ hy))
    have := h x (List.mem_cons_self)
    simp only [sumN, List.length_cons]; omega

theorem rvSum (b o : Nat) (l : List Nat) (c : Nat) (hl : 1 ≤ l.length) (hl4 : l.length ≤ 4) (hx : ∀ x ∈ l, x ≤ 9) (w : World) (hc : RdN w b o l) :
    Calls Try.prog 27 #[.slice (some ⟨b, o, none⟩) l.length c] w fun e w' => e = .returned (.int .i64 (sumN l : Nat)) ∧ w = w' := by
  have HB := hid (sumN_le l hx)
  have HX := hid hx
  have HC := hid hc.2
  have HD := hid (fun i h => sumN_drop l i h)
  clear hc hx
  generalize hn : l.length = n at *
  have HN := hid hn
  clear hn
  go_enter Try.func27, Try.ntmps27
  go_wp2
  go_loop [3, 8] (fun tv iv => ∃ i t : Nat, i ≤ n ∧ tv = .int .i64 t ∧ iv = .int .i64 i ∧ Hid (t + sumN (l.drop i) = sumN l) ∧ t ≤ 40) (fun _ iv => 5 - (intOf iv).toNat)
  case atStart => exact ⟨0, 0, by omega, rfl, rfl, hid (by simp), by omega⟩
  case round =>
    obtain ⟨i, t, hi, rfl, rfl, HT, ht⟩ := hrel
    by_cases hlt : i < n
    · have hlt' : (i : Int) < (n : Int) := by omega
      have hd := HD.out i hlt
      have hcell := HC.out i hlt
      have hsm := HT.out
      have hb := HB.out
      have hx9 : l.getD i 0 ≤ 9 := by
        have hi2 : i < l.length := by rw [HN.out]; exact hlt
        have := HX.out l[i] (List.getElem_mem _)
        simpa [List.getD, List.getElem?_eq_getElem hi2] using this
      have HS : Hid (t + l.getD i 0 + sumN (l.drop (i + 1)) = sumN l) := hid (by omega)
      have hbd : t + l.getD i 0 ≤ 36 := by omega
      clear hd hsm hb
      generalize l.getD i 0 = x at *
      go_wp2
      go_round
      case rel => exact ⟨i + 1, t + x, by omega, by go_num, by go_num, HS, by omega⟩
      case measure => simp [intOf]; omega
    · have hnlt : ¬ (i : Int) < (n : Int) := by omega
      have h0 : sumN (l.drop i) = 0 := by
        rw [List.drop_eq_nil_of_le (by rw [HN.out]; omega)]; rfl
      have hsm := HT.out
      rw [h0] at hsm
      have HS := hid hsm
      clear hsm h0
      go_wp2
      go_ret
      exact ⟨by rw [← HS.out]; rfl, rfl⟩

def restF (most k L : Nat) (o : Bool) : Nat → Nat := fun v => many most k (L - v) (o && decide (1 < v))
theorem restVal_drop (most : Nat) (l : List Nat) (i L : Nat) (o : Bool) (h : i < l.length) :
    restVal most (l.drop i) L o = tot (restF most (l.length - i - 1) L o) (l.getD i 0 - 1) + restVal most (l.drop (i + 1)) (L - l.getD i 0) (o && decide (1 < l.getD i 0)) := by
  rw [List.drop_eq_getElem_cons h, restVal]
  have e : l.getD i 0 = l[i] := by simp [List.getD, List.getElem?_eq_getElem h]
  rw [e]
  unfold restF
  rw [show (l.drop (i + 1)).length = l.length - i - 1 by rw [List.length_drop]; omega]

set_option maxHeartbeats 4000000 in
theorem rvValue (b o : Nat) (l : List Nat) (c : Nat) (most : Nat) (hm : most ≤ 8) (one : Bool) (hl : 1 ≤ l.length) (hl4 : l.length ≤ 4) (hx : ∀ x ∈ l, 1 ≤ x ∧ x ≤ 8) (hsm : sumN l ≤ 20) (w : World) (hc : RdN w b o l) :
    Calls Try.prog 15 #[.slice (some ⟨b, o, none⟩) l.length c, .int .i64 most, .bool one] w fun e w' => e = .returned (.int .i64 (restVal most l (sumN l) one : Nat)) ∧ w = w' := by
  have sm := rvSum b o l c hl hl4 (fun x h => by have := hx x h; omega) w hc
  have HX := hid (fun i (h : i < l.length) => by
    have := hx l[i] (List.getElem_mem h)
    rw [show l.getD i 0 = l[i] by simp [List.getD, List.getElem?_eq_getElem h]]
    exact this : ∀ i, i < l.length → 1 ≤ l.getD i 0 ∧ l.getD i 0 ≤ 8)
  have HC := hid hc.2
  have HD := hid (fun i h => sumN_drop l i h)
  have HR := hid (fun i L q h => restVal_drop most l i L q h)
  have RM := hid (fun k (hk : k ≤ 3) s q W (hs : s ≤ 20) => rvMany most hm k hk s q W hs)
  have HMF : Hid (∀ k L q v, k ≤ 3 → restF most k L q v ≤ 512) := hid (fun k L q v hk => Nat.le_trans (many_le most hm k _ _) (Nat.le_trans (Nat.pow_le_pow_right (by omega) hk) (by decide)))
  have HT : Hid (∀ k L q n, k ≤ 3 → n ≤ 8 → tot (restF most k L q) n ≤ 4096) := hid (fun k L q n hk hn => Nat.le_trans (tot_le _ 512 (fun v => HMF.out k L q v hk) n) (by have := Nat.mul_le_mul_right 512 hn; omega))
  clear hc hx
  obtain ⟨V, hV⟩ : ∃ V, V = restVal most l (sumN l) one := ⟨_, rfl⟩
  rw [← hV]
  have H0 : Hid (0 + restVal most (l.drop 0) (sumN l) one = V) := hid (by rw [hV]; simp)
  have HS0 : Hid (sumN (l.drop 0) = sumN l) := hid (by simp)
  clear hV
  generalize hn : l.length = n at *
  have HN := hid hn
  clear hn
  obtain ⟨S, hS⟩ : ∃ S, S = sumN l := ⟨_, rfl⟩
  rw [← hS] at sm H0 HS0 hsm
  clear hS
  go_enter Try.func15, Try.ntmps15
  go_wp2_with (go_at_call 27; refine sm.mono ?_; rintro e w' ⟨rfl, rfl⟩)
  clear sm
  go_loop [2, 7, 8, 16] (fun qv tv lv iv => ∃ (i t L : Nat) (q : Bool), i ≤ n ∧ qv = .bool q ∧ tv = .int .i64 t ∧ lv = .int .i64 L ∧ iv = .int .i64 i ∧ Hid (t + restVal most (l.drop i) L q = V) ∧ t ≤ i * 4096 ∧ L ≤ 20 ∧ Hid (sumN (l.drop i) = L)) (fun _ _ _ iv => 5 - (intOf iv).toNat)
  case atStart => exact ⟨0, 0, S, one, by omega, rfl, rfl, rfl, rfl, H0, by omega, hsm, HS0⟩
  case round =>
    obtain ⟨i, t, L, q, hi, rfl, rfl, rfl, rfl, HV, ht, hL, HL⟩ := hrel
    by_cases hlt : i < n
    · have hlt' : (i : Int) < (n : Int) := by omega
      have hcell := HC.out i hlt
      have hr := HR.out i L q hlt
      have hd := HD.out i hlt
      have hls := HL.out
      have hx9 := HX.out i hlt
      rw [hr] at HV
      generalize l.getD i 0 = x at *
      obtain ⟨hx1, hx8⟩ := hx9
      have hxL : x ≤ L := by omega
      have HL2 : Hid (sumN (l.drop (i + 1)) = L - x) := hid (by omega)
      obtain ⟨kk, hkk⟩ : ∃ kk, kk = n - i - 1 := ⟨_, rfl⟩
      rw [← hkk] at HV
      have hk3 : kk ≤ 3 := by omega
      have ek : (n : Int) - (i : Int) - 1 = (kk : Int) := by omega
      have hT := HT.out kk L q (x - 1) hk3 (by omega)
      have HF := hid (fun v => HMF.out kk L q v hk3)
      have HTT := hid (fun m (hm : m ≤ 8) => HT.out kk L q m hk3 hm)
      have RMK := hid (fun v W => RM.out kk hk3 (L - v) (q && decide (1 < v)) W (by omega))
      have HFE : Hid (∀ v, many most kk (L - v) (q && decide (1 < v)) = restF most kk L q v) := hid (fun v => rfl)
      clear hr hd hls hkk
      generalize restF most kk L q = F at *
      have ht2 : t ≤ 20000 := by omega
      go_wp2
      go_loop [7, 11] (fun tv vv => ∃ v : Nat, 1 ≤ v ∧ v ≤ x ∧ tv = .int .i64 ((t + tot F (v - 1) : Nat) : Int) ∧ vv = .int .i64 v) (fun _ vv => 30 - (intOf vv).toNat)
      case atStart => exact ⟨1, by omega, by omega, by simp [tot], rfl⟩
      case round =>
        obtain ⟨v, hv1, hv2, rfl, rfl⟩ := hrel
        by_cases hvx : v < x
        · have hvx' : (v : Int) < (x : Int) := by omega
          have e1 : (L : Int) - (v : Int) = ((L - v : Nat) : Int) := by omega
          have hst : tot F (v - 1) + F v = tot F v := by
            obtain ⟨u, rfl⟩ : ∃ u, v = u + 1 := ⟨v - 1, by omega⟩
            rfl
          have hfv := HF.out v
          have htv := HTT.out (v - 1) (by omega)
          have rm := RMK.out v
          rw [HFE.out v] at rm
          have HST := hid hst
          clear hst
          generalize F v = y at *
          generalize tot F (v - 1) = z at *
          obtain ⟨tz, htz⟩ : ∃ tz, tz = t + z := ⟨_, rfl⟩
          rw [← htz]
          have HTZ := hid htz
          have htzl : tz ≤ 30000 := by omega
          clear htz
          have cases3 : (q = false ∧ (q && decide (1 < v)) = false) ∨ (q = true ∧ 1 < v ∧ (q && decide (1 < v)) = true) ∨ (q = true ∧ ¬ 1 < v ∧ (q && decide (1 < v)) = false) := by
            cases q
            · exact .inl ⟨rfl, rfl⟩
            · by_cases h : 1 < v
              · exact .inr (.inl ⟨rfl, h, by simp [h]⟩)
              · exact .inr (.inr ⟨rfl, h, by simp [h]⟩)
          rcases cases3 with ⟨h1, h2⟩ | ⟨h1, h3, h2⟩ | ⟨h1, h3, h2⟩
          all_goals
            rw [h2] at rm
            clear h2
            subst h1
            try (have h4 : (1 : Int) < (v : Int) := by omega)
            try (have h5 : ¬ (1 : Int) < (v : Int) := by omega)
            go_wp2_with (go_at_call 28; refine (rm _).mono ?_; rintro e w' ⟨rfl, rfl⟩)
            go_round
            case rel => exact ⟨v + 1, by omega, by omega, by rw [Nat.add_sub_cancel, ← HST.out, ← Nat.add_assoc, ← HTZ.out]; go_num, by go_num⟩
            case measure => simp [intOf]; omega
        · obtain rfl : v = x := by omega
          have htv := HTT.out (v - 1) (by omega)
          generalize tot F (v - 1) = z at *
          obtain ⟨tz, htz⟩ : ∃ tz, tz = t + z := ⟨_, rfl⟩
          rw [← htz]
          have htzl : tz ≤ (i + 1) * 4096 := by rw [Nat.succ_mul]; omega
          have htz3 : tz ≤ 30000 := by omega
          have HV2 := hid (show tz + restVal most (l.drop (i + 1)) (L - v) (q && decide (1 < v)) = V by rw [htz]; have := HV.out; omega)
          have eL : (L : Int) - (v : Int) = ((L - v : Nat) : Int) := by omega
          clear htz
          have cases3 : (q = false ∧ (q && decide (1 < v)) = false) ∨ (q = true ∧ 1 < v ∧ (q && decide (1 < v)) = true) ∨ (q = true ∧ ¬ 1 < v ∧ (q && decide (1 < v)) = false) := by
            cases q
            · exact .inl ⟨rfl, rfl⟩
            · by_cases h : 1 < v
              · exact .inr (.inl ⟨rfl, h, by simp [h]⟩)
              · exact .inr (.inr ⟨rfl, h, by simp [h]⟩)
          rcases cases3 with ⟨h1, h2⟩ | ⟨h1, h3, h2⟩ | ⟨h1, h3, h2⟩
          all_goals
            rw [h2] at HV2
            clear h2
            subst h1
            try (have h4 : (1 : Int) < (v : Int) := by omega)
            try (have h5 : ¬ (1 : Int) < (v : Int) := by omega)
            go_wp2
            go_round
            case rel => exact ⟨i + 1, tz, L - v, _, by omega, rfl, rfl, rfl, by go_num, HV2, htzl, by omega, HL2⟩
            case measure => simp [intOf]; omega
    · have h0 : restVal most (l.drop i) L q = 0 := by
        rw [List.drop_eq_nil_of_le (by rw [HN.out]; omega)]; rfl
      have hv := HV.out
      rw [h0] at hv
      have HV2 := hid hv
      clear hv h0
      have hnlt : ¬ (i : Int) < (n : Int) := by omega
      go_wp2
      go_ret
      exact ⟨by rw [← HV2.out]; rfl, rfl⟩
end Go.Proofs.Ytifegijnhlbedaa
