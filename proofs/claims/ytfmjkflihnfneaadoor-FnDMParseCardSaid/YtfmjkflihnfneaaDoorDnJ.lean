/- spec.DMScript. -/
import Derived.Test.YtfmjkflihnfneaaDoorDnI
namespace Go.Proofs.YtfmjkflihnfneaaDoor
open Go.RowKit
set_option linter.unusedVariables false
set_option linter.unusedSimpArgs false

theorem thrV_len (m c : Nat) : (thrV m c).length ≤ 2 := by
  unfold thrV dmVals
  repeat' split
  all_goals simp
theorem thrAll_len (m : Nat) : ∀ s : List Nat, (thrAll m s).length ≤ 2 * s.length
  | [] => by simp [thrAll]
  | c :: s => by
    have h1 := thrV_len m c
    have h2 := thrAll_len m s
    have e : thrAll m (c :: s) = thrV m c ++ thrAll m s := by simp [thrAll]
    rw [e, List.length_append, List.length_cons]; omega
theorem triW_le : ∀ l : List Nat, (triW l).length ≤ l.length
  | [] => by simp [triW]
  | [_] => by simp [triW]
  | [_, _] => by simp [triW]
  | a :: b :: c :: t => by
    have := triW_le t
    simp only [triW, List.length_cons]; omega
theorem seg_len (m : Nat) (s : List Nat) (bf : Nat) (h : s.length ≤ 1600) : (segW m s bf).length ≤ 5000 := by
  have ha := asciiW_len s
  unfold segW
  by_cases h0 : s = []
  · rw [if_pos h0]; simp
  rw [if_neg h0]
  by_cases h1 : m = 0
  · rw [if_pos h1]; omega
  rw [if_neg h1]
  by_cases h2 : m = 4
  · rw [if_pos h2, sixW, List.length_cons, (six_all (sixV s) (sixV_lt s) (s.length + 1)).1]; omega
  rw [if_neg h2]
  by_cases h3 : m = 5
  · rw [if_pos h3, byteW, List.length_cons, mixTo, List.length_map, List.length_range, List.length_append]
    have := lenW_len s.length
    omega
  rw [if_neg h3]
  unfold threeW
  split
  · omega
  · have g1 := triW_le ((thrAll m s).take (bestTo m s s.length).2)
    have g2 := thrAll_len m s
    have g3 := asciiW_len (s.drop (bestTo m s s.length).1)
    rw [List.length_take] at g1
    rw [List.length_drop] at g3
    rw [List.length_cons, List.length_append, List.length_cons]
    omega
theorem script_len (l : List (Nat × List Nat)) (hl : ∀ x ∈ l, x.2.length ≤ 1600) : ∀ k, k ≤ l.length → (scriptTo l k).length ≤ 5000 * k
  | 0, _ => by simp [scriptTo]
  | k + 1, h => by
    have := script_len l hl k (by omega)
    have h2 := seg_len (l.getD k (0, [])).1 (l.getD k (0, [])).2 (scriptTo l k).length (hl (l.getD k (0, [])) (by rw [List.getD, List.getElem?_eq_getElem (by omega)]; exact List.getElem_mem _))
    rw [scriptTo, List.length_append]
    omega
theorem natS_at (l : List (Int × List Nat)) (k : Nat) (h : k < l.length) : (natS l).getD k (0, []) = ((l.getD k (0, [])).1.toNat, (l.getD k (0, [])).2) := by
  simp [natS, List.getD, List.getElem?_eq_getElem h]

set_option maxRecDepth 20000 in
set_option maxHeartbeats 4000000 in
theorem scriptM (l : List (Int × List Nat)) (hn : l.length ≤ 40) (hl : ∀ x ∈ l, inModeZ x.1 x.2 = true ∧ x.2.length ≤ 1600) (A : Option Addr) (c : Nat) (w : World) (hS : Segs w A l.length l) :
    Calls Tryd.prog 15 #[.slice A l.length c] w (BytesNew (scriptTo (natS l) l.length) w) := by
  obtain ⟨i5, gi, gz0, gz1, gz2⟩ := info_of info5
  obtain ⟨N, hN⟩ : ∃ N, N = l.length := ⟨_, rfl⟩
  rw [← hN] at hn hS ⊢
  have HN := hid hN
  have HS := hid hS
  have HL := hid hl
  have HSL := hid (fun k (hk : k ≤ N) => script_len (natS l) (fun x hx => by
    obtain ⟨y, hy, rfl⟩ := List.mem_map.1 hx
    exact (hl y hy).2) k (by simp [natS]; omega))
  clear hN hS hl
  go_enter Tryd.func15, Tryd.ntmps15
  go_wp2_with fail
  go_loopw [3, 8] (fun ov iv wr => ∃ (k : Nat), k ≤ N ∧ iv = .int .i64 (k : Nat) ∧ Hid (Own wr w.heap.size 5 ov (u8s (scriptTo (natS l) k))) ∧ Hid (Below w.heap.size w wr)) (fun _ iv _ => N - (intOf iv).toNat)
  case atStart => exact ⟨0, by omega, rfl, hid (Own.nil _ _ _), hid (Below.refl _ _)⟩
  case round =>
    obtain ⟨k, hk1, rfl, HO, HB⟩ := hrel
    by_cases hlt : k < N
    case neg =>
      obtain rfl : k = N := by omega
      have hlt' : ¬ (k : Int) < (k : Int) := by omega
      obtain ⟨A9, c9, hv, _, _⟩ := HO.out.form
      subst hv
      go_wp2_with fail
      go_ret
      exact ⟨_, rfl, HO.out, HB.out⟩
    case pos =>
      have hlt' : (k : Int) < (N : Int) := by omega
      have hkl : k < l.length := by rw [← HN.out]; exact hlt
      obtain ⟨b, o, hA, hb, hc⟩ := (HS.out.2 (by omega))
      subst hA
      obtain ⟨c0, c1⟩ := hc k hlt
      have c0 := (HB.out.cell (p := ⟨b, o + k * 2, none⟩) hb).trans c0
      have c1 := (HB.out.cell (p := ⟨b, o + k * 2 + 1, none⟩) hb).trans c1
      clear hc
      have hpl := HSL.out k (by omega)
      have HSU := hid (show scriptTo (natS l) (k + 1) = scriptTo (natS l) k ++ segW (l.getD k (0, [])).1.toNat (l.getD k (0, [])).2 (scriptTo (natS l) k).length from by rw [scriptTo, natS_at l k hkl])
      obtain ⟨hin, hl16⟩ := HL.out (l.getD k (0, [])) (by rw [List.getD, List.getElem?_eq_getElem hkl]; exact List.getElem_mem _)
      generalize (l.getD k (0, [])).2 = t at *
      have hm5 : 0 ≤ (l.getD k (0, [])).1 ∧ (l.getD k (0, [])).1 ≤ 5 := by
        simp only [inModeZ, Bool.and_eq_true, decide_eq_true_eq] at hin; exact hin.2
      obtain ⟨m, hm⟩ : ∃ m : Nat, (l.getD k (0, [])).1 = (m : Nat) := ⟨(l.getD k (0, [])).1.toNat, by omega⟩
      rw [hm] at hin hm5 c0 HSU
      have hin' := inModeZ_nat m t hin
      obtain ⟨hm5', hch⟩ := inMode_ok hin'
      rw [Int.toNat_natCast] at HSU
      have hsg := seg_len m t (scriptTo (natS l) k).length hl16
      generalize scriptTo (natS l) k = P at *
      obtain ⟨P2, hP2⟩ : ∃ P2, P2 = scriptTo (natS l) (k + 1) := ⟨_, rfl⟩
      rw [← hP2] at HSU
      have HP2 := hid hP2
      have HCH := hid hch
      have HM := hid hm
      have HIN := hid hin
      clear hP2 hch hm hin hin' hm5
      have hbs := HB.out.size
      have HB2 := hid (HB.out.alloc hbs (.cells #[.int .i64 (m : Nat), .string (strOf t)] 24))
      by_cases h0 : t = []
      case pos =>
        subst h0
        have hsu := HSU.out
        rw [segW, if_pos rfl, List.append_nil] at hsu
        have HSU := hid hsu
        clear hsu hsg hl16
        have hse : strOf [] = ⟨#[]⟩ := rfl
        rw [hse] at c1 HB2
        go_wp2_with fail
        go_roundw
        case rel => exact ⟨k + 1, by omega, by go_num, hid (by rw [← HP2.out, HSU.out]; exact HO.out.alloc _), HB2⟩
        case measure => simp [intOf]; omega
      case neg =>
        have hne : (strOf t).toList.isEmpty = false := by
          rw [strOf_toList]
          cases t with
          | nil => exact absurd rfl h0
          | cons a t => rfl
        have hsu := HSU.out
        clear HSU
        rw [segW, if_neg h0] at hsu
        rw [segW, if_neg h0] at hsg
        by_cases hm0 : m = 0
        case pos =>
          subst hm0
          rw [if_pos rfl] at hsu hsg
          have HC := hid (fun W => asciiM t (fun c hc => (HCH.out c hc).1) (by omega) W)
          obtain ⟨S, hS⟩ : ∃ S, S = asciiW t := ⟨_, rfl⟩
          rw [← hS] at hsu hsg HC
          have HSU := hid hsu
          have m1 := hid (show (u8s P).length + (u8s S).length ≤ maxLen by rw [u8s_len, u8s_len]; simp [maxLen]; omega)
          have m2 := hid (show ((u8s P).length + (u8s S).length) * 1 ≤ 140737488355328 by rw [u8s_len, u8s_len]; omega)
          generalize hst : strOf t = st at *
          clear hsu hS hst hsg hpl
          go_wp2_with (first | (go_at_call 20; ((with_reducible refine (HC.out _).mono ?_); rintro e w' ⟨v9, rfl, HO9, HB9⟩; obtain ⟨A9, c9, rfl, hR9, _⟩ := HO9.form)) | (at_builtin; refine wpList_app _ rfl _ _ 28 rfl w.heap.size 5 i5 _ 1 Tryd.underlying28 gi gz0 gz1 gz2 rfl _ (u8s P) rfl ((HO.out.alloc _).below HB9 (fun k hk => Nat.lt_trans (HO.out.lt k hk).2 (by simp))) _ _ _ (u8s S) rfl hR9 (u8s_one _) m1.out m2.out (Nat.le_trans hbs (Nat.le_trans (by simp) HB9.size)) ?_))
          intro v5 w5 hO5 hg5 hown5
          have HO5 := hid (show Own w5 w.heap.size 5 v5 (u8s (scriptTo (natS l) (k + 1))) from by rw [← HP2.out, HSU.out]; unfold u8s at hO5 ⊢; rw [List.map_append]; exact hO5)
          have HB5 := hid ((HB2.out.trans (HB9.mono (Nat.le_trans hbs (by simp)))).grown hg5 (Nat.le_trans hbs (Nat.le_trans (by simp) HB9.size)) (fun k hk => (HO.out.lt k hk).1))
          clear hO5 hg5 hown5 HO HB HB2 HO9 HB9 hR9
          go_wp2_with fail
          go_roundw
          case rel => exact ⟨k + 1, by omega, by go_num, HO5, HB5⟩
          case measure => simp [intOf]; omega
        case neg =>
        rw [if_neg hm0] at hsu hsg
        by_cases hm4 : m = 4
        case pos =>
          subst hm4
          rw [if_pos rfl] at hsu hsg
          have HC := hid (fun W => sixesM t (fun c hc => by have := (HCH.out c hc).1; omega) hl16 W)
          obtain ⟨S, hS⟩ : ∃ S, S = sixW t := ⟨_, rfl⟩
          rw [← hS] at hsu hsg HC
          have HSU := hid hsu
          have m1 := hid (show (u8s P).length + (u8s S).length ≤ maxLen by rw [u8s_len, u8s_len]; simp [maxLen]; omega)
          have m2 := hid (show ((u8s P).length + (u8s S).length) * 1 ≤ 140737488355328 by rw [u8s_len, u8s_len]; omega)
          generalize hst : strOf t = st at *
          clear hsu hS hst hsg hpl
          go_wp2_with (first | (go_at_call 21; ((with_reducible refine (HC.out _).mono ?_); rintro e w' ⟨v9, rfl, HO9, HB9⟩; obtain ⟨A9, c9, rfl, hR9, _⟩ := HO9.form)) | (at_builtin; refine wpList_app _ rfl _ _ 28 rfl w.heap.size 5 i5 _ 1 Tryd.underlying28 gi gz0 gz1 gz2 rfl _ (u8s P) rfl ((HO.out.alloc _).below HB9 (fun k hk => Nat.lt_trans (HO.out.lt k hk).2 (by simp))) _ _ _ (u8s S) rfl hR9 (u8s_one _) m1.out m2.out (Nat.le_trans hbs (Nat.le_trans (by simp) HB9.size)) ?_))
          intro v5 w5 hO5 hg5 hown5
          have HO5 := hid (show Own w5 w.heap.size 5 v5 (u8s (scriptTo (natS l) (k + 1))) from by rw [← HP2.out, HSU.out]; unfold u8s at hO5 ⊢; rw [List.map_append]; exact hO5)
          have HB5 := hid ((HB2.out.trans (HB9.mono (Nat.le_trans hbs (by simp)))).grown hg5 (Nat.le_trans hbs (Nat.le_trans (by simp) HB9.size)) (fun k hk => (HO.out.lt k hk).1))
          clear hO5 hg5 hown5 HO HB HB2 HO9 HB9 hR9
          go_wp2_with fail
          go_roundw
          case rel => exact ⟨k + 1, by omega, by go_num, HO5, HB5⟩
          case measure => simp [intOf]; omega
        case neg =>
        rw [if_neg hm4] at hsu hsg
        by_cases hm5 : m = 5
        case pos =>
          subst hm5
          rw [if_pos rfl] at hsu hsg
          obtain ⟨Q, hQ⟩ : ∃ Q, Q = P.length := ⟨_, rfl⟩
          obtain ⟨A8, c8, hv, _, _⟩ := HO.out.form
          rw [u8s_len, ← hQ] at hv
          subst hv
          rw [← hQ] at hsu hsg hpl
          have HQ := hid hQ
          clear hQ
          have HC := hid (fun W => bytesM t (fun c hc => by have := (HCH.out c hc).1; omega) hl16 Q (by omega) W)
          obtain ⟨S, hS⟩ : ∃ S, S = byteW t Q := ⟨_, rfl⟩
          rw [← hS] at hsu hsg HC
          have HSU := hid hsu
          have m1 := hid (show (u8s P).length + (u8s S).length ≤ maxLen by rw [u8s_len, u8s_len, ← HQ.out]; simp [maxLen]; omega)
          have m2 := hid (show ((u8s P).length + (u8s S).length) * 1 ≤ 140737488355328 by rw [u8s_len, u8s_len, ← HQ.out]; omega)
          generalize hst : strOf t = st at *
          clear hsu hS hst hsg hpl
          go_wp2_with (first | (go_at_call 22; ((with_reducible refine (HC.out _).mono ?_); rintro e w' ⟨v9, rfl, HO9, HB9⟩; obtain ⟨A9, c9, rfl, hR9, _⟩ := HO9.form; generalize hlv : Value.slice A8 Q c8 = lv at *)) | (at_builtin; refine wpList_app _ rfl _ _ 28 rfl w.heap.size 5 i5 _ 1 Tryd.underlying28 gi gz0 gz1 gz2 rfl _ (u8s P) rfl ((HO.out.alloc _).below HB9 (fun k hk => Nat.lt_trans (HO.out.lt k hk).2 (by simp))) _ _ _ (u8s S) rfl hR9 (u8s_one _) m1.out m2.out (Nat.le_trans hbs (Nat.le_trans (by simp) HB9.size)) ?_))
          intro v5 w5 hO5 hg5 hown5
          have HO5 := hid (show Own w5 w.heap.size 5 v5 (u8s (scriptTo (natS l) (k + 1))) from by rw [← HP2.out, HSU.out]; unfold u8s at hO5 ⊢; rw [List.map_append]; exact hO5)
          have HB5 := hid ((HB2.out.trans (HB9.mono (Nat.le_trans hbs (by simp)))).grown hg5 (Nat.le_trans hbs (Nat.le_trans (by simp) HB9.size)) (fun k hk => (HO.out.lt k hk).1))
          clear hO5 hg5 hown5 HO HB HB2 HO9 HB9 hR9
          go_wp2_with fail
          go_roundw
          case rel => exact ⟨k + 1, by omega, by go_num, HO5, HB5⟩
          case measure => simp [intOf]; omega
        case neg =>
        rw [if_neg hm5] at hsu hsg
        have n0 : ((m : Int) == 0) = false := by simp; omega
        have n4 : ((m : Int) == 4) = false := by simp; omega
        have n5 : ((m : Int) == 5) = false := by simp; omega
        have HC := hid (fun W => threesM m (by omega) (by omega) t (fun c hc => ⟨(HCH.out c hc).1, (HCH.out c hc).2.1⟩) hl16 W)
        obtain ⟨S, hS⟩ : ∃ S, S = threeW m t := ⟨_, rfl⟩
        rw [← hS] at hsu hsg HC
        have HSU := hid hsu
        have m1 := hid (show (u8s P).length + (u8s S).length ≤ maxLen by rw [u8s_len, u8s_len]; simp [maxLen]; omega)
        have m2 := hid (show ((u8s P).length + (u8s S).length) * 1 ≤ 140737488355328 by rw [u8s_len, u8s_len]; omega)
        generalize hst : strOf t = st at *
        clear hsu hS hst hsg hpl
        go_wp2_with (first | (go_at_call 23; ((with_reducible refine (HC.out _).mono ?_); rintro e w' ⟨v9, rfl, HO9, HB9⟩; obtain ⟨A9, c9, rfl, hR9, _⟩ := HO9.form)) | (at_builtin; refine wpList_app _ rfl _ _ 28 rfl w.heap.size 5 i5 _ 1 Tryd.underlying28 gi gz0 gz1 gz2 rfl _ (u8s P) rfl ((HO.out.alloc _).below HB9 (fun k hk => Nat.lt_trans (HO.out.lt k hk).2 (by simp))) _ _ _ (u8s S) rfl hR9 (u8s_one _) m1.out m2.out (Nat.le_trans hbs (Nat.le_trans (by simp) HB9.size)) ?_))
        intro v5 w5 hO5 hg5 hown5
        have HO5 := hid (show Own w5 w.heap.size 5 v5 (u8s (scriptTo (natS l) (k + 1))) from by rw [← HP2.out, HSU.out]; unfold u8s at hO5 ⊢; rw [List.map_append]; exact hO5)
        have HB5 := hid ((HB2.out.trans (HB9.mono (Nat.le_trans hbs (by simp)))).grown hg5 (Nat.le_trans hbs (Nat.le_trans (by simp) HB9.size)) (fun k hk => (HO.out.lt k hk).1))
        clear hO5 hg5 hown5 HO HB HB2 HO9 HB9 hR9
        go_wp2_with fail
        go_roundw
        case rel => exact ⟨k + 1, by omega, by go_num, HO5, HB5⟩
        case measure => simp [intOf]; omega
end Go.Proofs.YtfmjkflihnfneaaDoor
