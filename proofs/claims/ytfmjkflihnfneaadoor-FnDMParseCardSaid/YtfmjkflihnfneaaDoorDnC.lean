/- spec.DMAsciiWords. -/
import Derived.Test.YtfmjkflihnfneaaDoorDnB
namespace Go.Proofs.YtfmjkflihnfneaaDoor
open Go.RowKit
set_option linter.unusedVariables false
set_option linter.unusedSimpArgs false

theorem u8wrap (n : Int) : IntKind.u8.wrap n = n % 256 := by
  simp [IntKind.wrap, IntKind.bits, IntKind.signed]
/-- Bytes that the call made. -/
def BytesNew (l : List Nat) (w : World) (e : Ending) (w' : World) : Prop :=
  ∃ v, e = .returned v ∧ Own w' w.heap.size 5 v (u8s l) ∧ Below w.heap.size w w'
theorem asciiW_len : ∀ s : List Nat, (asciiW s).length ≤ s.length
  | [] => by simp [asciiW]
  | [a] => by simp [asciiW]
  | a :: b :: t => by
    have h1 := asciiW_len t
    have h2 := asciiW_len (b :: t)
    unfold asciiW
    split
    · simp only [List.length_cons] at *; omega
    · simp only [List.length_cons] at *; omega
theorem drop_two (l : List Nat) (i : Nat) (h : i + 1 < l.length) : l.drop i = l.getD i 0 :: l.getD (i + 1) 0 :: l.drop (i + 2) := by
  rw [List.drop_eq_getElem_cons (by omega), List.drop_eq_getElem_cons h]
  simp [List.getD, List.getElem?_eq_getElem (show i < l.length by omega), List.getElem?_eq_getElem h]
theorem drop_one (l : List Nat) (i : Nat) (h : i < l.length) : l.drop i = l.getD i 0 :: l.drop (i + 1) := by
  rw [List.drop_eq_getElem_cons h]
  simp [List.getD, List.getElem?_eq_getElem h]
theorem ascii_pair (l : List Nat) (i : Nat) (h : i + 1 < l.length) (ha : isDig (l.getD i 0) = true) (hb : isDig (l.getD (i + 1) 0) = true) :
    asciiW (l.drop i) = (130 + 10 * (l.getD i 0 - 48) + (l.getD (i + 1) 0 - 48)) :: asciiW (l.drop (i + 2)) := by
  rw [drop_two l i h, asciiW, ha, hb]; rfl
theorem ascii_one (l : List Nat) (i : Nat) (h : i < l.length) (hn : i + 1 < l.length → isDig (l.getD i 0) = true → isDig (l.getD (i + 1) 0) = false) :
    asciiW (l.drop i) = (l.getD i 0 + 1) :: asciiW (l.drop (i + 1)) := by
  rcases Nat.lt_or_ge (i + 1) l.length with h1 | h1
  · have e : (isDig (l.getD i 0) && isDig (l.getD (i + 1) 0)) = false := by
      cases ha : isDig (l.getD i 0)
      · rfl
      · rw [hn h1 ha]; rfl
    rw [drop_two l i h1, asciiW, if_neg (by rw [e]; simp), drop_one l (i + 1) h1]
  · rw [drop_one l i h, List.drop_eq_nil_of_le h1]; rfl

set_option maxRecDepth 20000 in
set_option maxHeartbeats 4000000 in
theorem asciiM (l : List Nat) (h127 : ∀ c ∈ l, c ≤ 127) (hl : l.length ≤ 2000) (w : World) : Calls Tryd.prog 20 #[.string (strOf l)] w (BytesNew (asciiW l) w) := by
  obtain ⟨i5, hi, hz0, hz1, hz2⟩ := info_of info5
  have h256 : ∀ c ∈ l, c < 256 := fun c hc => by have := h127 c hc; omega
  have hsz := strOf_size l
  have HAT := hid (fun i hi => str_at l h256 i hi)
  have HLT := hid (fun i (hi : i < l.length) => show l.getD i 0 ≤ 127 from by rw [List.getD, List.getElem?_eq_getElem hi]; exact h127 _ (List.getElem_mem hi))
  obtain ⟨N, hN⟩ : ∃ N, N = l.length := ⟨_, rfl⟩
  rw [← hN] at hsz hl
  have HN := hid hN
  obtain ⟨st, hst⟩ : ∃ st, st = strOf l := ⟨_, rfl⟩
  rw [← hst] at hsz HAT ⊢
  obtain ⟨R, hR⟩ : ∃ R, R = asciiW l := ⟨_, rfl⟩
  rw [← hR]
  have HR := hid (show ([] : List Nat) ++ asciiW (l.drop 0) = R by rw [hR]; rfl)
  clear hst hN hR h256 h127
  go_enter Tryd.func20, Tryd.ntmps20
  go_wp2_with fail
  go_loopw [3, 4] (fun ov iv wr => ∃ (i : Nat) (out : List Nat), i ≤ N ∧ out.length ≤ i ∧ iv = .int .i64 (i : Nat) ∧ Hid (out ++ asciiW (l.drop i) = R) ∧ Hid (Own wr w.heap.size 5 ov (u8s out)) ∧ Hid (Below w.heap.size w wr)) (fun _ iv _ => N - (intOf iv).toNat)
  case atStart => exact ⟨0, [], by omega, by simp, rfl, HR, hid (Own.nil _ _ _), hid (Below.refl _ _)⟩
  case round =>
    clear HR
    obtain ⟨i, out, hi1, ho, rfl, HE, HO, HB⟩ := hrel
    by_cases hlt : i < N
    case neg =>
      obtain rfl : i = N := by omega
      have hlt' : ¬ (i : Int) < (i : Int) := by omega
      have hE := HE.out
      rw [HN.out, List.drop_length, asciiW, List.append_nil] at hE
      obtain ⟨A9, c9, hv, _, _⟩ := HO.out.form
      subst hv
      go_wp2_with fail
      go_ret
      rw [← hE]
      exact ⟨_, rfl, HO.out, HB.out⟩
    case pos =>
      have hlt' : (i : Int) < (N : Int) := by omega
      have his : i < st.size := by omega
      have hx := HAT.out i his
      have hx127 := HLT.out i (by rw [← HN.out]; exact hlt)
      have hol : (u8s out).length = out.length := u8s_len out
      have m1 := hid (show (u8s out).length + 1 ≤ maxLen by rw [hol]; simp [maxLen]; omega)
      have m2 := hid (show ((u8s out).length + 1) * 1 ≤ 140737488355328 by rw [hol]; omega)
      have m3 := hid HB.out.size
      have hbs := HB.out.size
      clear hol
      have HP := hid (ascii_pair l i)
      have HQ := hid (ascii_one l i (by rw [← HN.out]; exact hlt))
      rw [← HN.out] at HP HQ
      have hbd : i + 1 < N → l.getD (i + 1) 0 ≤ 127 := fun h => HLT.out (i + 1) (by rw [← HN.out]; exact h)
      have HAT2 := hid (show ∀ (h : i + 1 < st.size), (st[i + 1]'h).toNat = l.getD (i + 1) 0 from fun h => HAT.out (i + 1) h)
      generalize l.getD i 0 = a at *
      generalize l.getD (i + 1) 0 = b at *
      have HDA := hid (fun W => digitM a (by omega) W)
      by_cases h1 : i + 1 < N
      case neg =>
        have h1' : ¬ (i : Int) + 1 < (N : Int) := by omega
        have HAS := hid (HQ.out (fun h => absurd h h1))
        have HDB := HDA
        clear HP HQ hbd HAT2
        go_wp2_with (first | (go_at_call 43; ((with_reducible refine (HDA.out _).mono ?_); rintro e w' ⟨rfl, rfl⟩)) | (go_at_call 43; ((with_reducible refine (HDB.out _).mono ?_); rintro e w' ⟨rfl, rfl⟩)) | (at_builtin; refine wpList_app _ rfl _ _ 28 rfl w.heap.size 5 i5 _ 1 Tryd.underlying28 hi hz0 hz1 hz2 rfl _ (u8s out) rfl (HO.out.alloc _) _ 1 1 [.int .u8 ((a : Int) + 1)] rfl (Rd.one' _ _ _ _ rfl) (by intro u hu; rw [List.mem_singleton.1 hu]; rfl) m1.out m2.out (Nat.le_trans m3.out (by simp)) ?_))
        intro v4 w4 hO4 hg4 hown4
        have HO4 := hid (show Own w4 w.heap.size 5 v4 (u8s (out ++ [a + 1])) from by unfold u8s at hO4 ⊢; rw [List.map_append]; exact hO4)
        have HB4 := hid ((HB.out.alloc hbs (.cells #[.int .u8 ((a : Int) + 1)] 5)).grown hg4 (by simp; omega) (fun k hk => (HO.out.lt k hk).1))
        have HE4 := hid (show (out ++ [a + 1]) ++ asciiW (l.drop (i + 1)) = R by rw [← HE.out, HAS.out, List.append_assoc]; rfl)
        clear hO4 hg4 hown4 HO HB HE
        go_wp2_with fail
        go_roundw
        case rel => exact ⟨i + 1, out ++ [a + 1], by omega, by rw [List.length_append, List.length_singleton]; omega, by go_num, HE4, HO4, HB4⟩
        case measure => simp [intOf]; omega
      case pos =>
      have h1' : (i : Int) + 1 < (N : Int) := by omega
      have hb127 := hbd h1
      have his1 : i + 1 < st.size := by omega
      have hx1 := HAT2.out his1
      have HDB := hid (fun W => digitM b (by omega) W)
      clear hbd HAT2
      by_cases hda : isDig a = true
      case neg =>
        rw [Bool.not_eq_true] at hda
        have HAS := hid (HQ.out (fun _ h => by rw [hda] at h; cases h))
        rw [hda] at HDA
        clear HP HQ hda
        go_wp2_with (first | (go_at_call 43; ((with_reducible refine (HDA.out _).mono ?_); rintro e w' ⟨rfl, rfl⟩)) | (go_at_call 43; ((with_reducible refine (HDB.out _).mono ?_); rintro e w' ⟨rfl, rfl⟩)) | (at_builtin; refine wpList_app _ rfl _ _ 28 rfl w.heap.size 5 i5 _ 1 Tryd.underlying28 hi hz0 hz1 hz2 rfl _ (u8s out) rfl (HO.out.alloc _) _ 1 1 [.int .u8 ((a : Int) + 1)] rfl (Rd.one' _ _ _ _ rfl) (by intro u hu; rw [List.mem_singleton.1 hu]; rfl) m1.out m2.out (Nat.le_trans m3.out (by simp)) ?_))
        intro v4 w4 hO4 hg4 hown4
        have HO4 := hid (show Own w4 w.heap.size 5 v4 (u8s (out ++ [a + 1])) from by unfold u8s at hO4 ⊢; rw [List.map_append]; exact hO4)
        have HB4 := hid ((HB.out.alloc hbs (.cells #[.int .u8 ((a : Int) + 1)] 5)).grown hg4 (by simp; omega) (fun k hk => (HO.out.lt k hk).1))
        have HE4 := hid (show (out ++ [a + 1]) ++ asciiW (l.drop (i + 1)) = R by rw [← HE.out, HAS.out, List.append_assoc]; rfl)
        clear hO4 hg4 hown4 HO HB HE
        go_wp2_with fail
        go_roundw
        case rel => exact ⟨i + 1, out ++ [a + 1], by omega, by rw [List.length_append, List.length_singleton]; omega, by go_num, HE4, HO4, HB4⟩
        case measure => simp [intOf]; omega
      case pos =>
      rw [hda] at HDA
      by_cases hdb : isDig b = true
      case neg =>
        rw [Bool.not_eq_true] at hdb
        have HAS := hid (HQ.out (fun _ _ => hdb))
        rw [hdb] at HDB
        clear HP HQ hda hdb
        go_wp2_with (first | (go_at_call 43; ((with_reducible refine (HDA.out _).mono ?_); rintro e w' ⟨rfl, rfl⟩)) | (go_at_call 43; ((with_reducible refine (HDB.out _).mono ?_); rintro e w' ⟨rfl, rfl⟩)) | (at_builtin; refine wpList_app _ rfl _ _ 28 rfl w.heap.size 5 i5 _ 1 Tryd.underlying28 hi hz0 hz1 hz2 rfl _ (u8s out) rfl (HO.out.alloc _) _ 1 1 [.int .u8 ((a : Int) + 1)] rfl (Rd.one' _ _ _ _ rfl) (by intro u hu; rw [List.mem_singleton.1 hu]; rfl) m1.out m2.out (Nat.le_trans m3.out (by simp)) ?_))
        intro v4 w4 hO4 hg4 hown4
        have HO4 := hid (show Own w4 w.heap.size 5 v4 (u8s (out ++ [a + 1])) from by unfold u8s at hO4 ⊢; rw [List.map_append]; exact hO4)
        have HB4 := hid ((HB.out.alloc hbs (.cells #[.int .u8 ((a : Int) + 1)] 5)).grown hg4 (by simp; omega) (fun k hk => (HO.out.lt k hk).1))
        have HE4 := hid (show (out ++ [a + 1]) ++ asciiW (l.drop (i + 1)) = R by rw [← HE.out, HAS.out, List.append_assoc]; rfl)
        clear hO4 hg4 hown4 HO HB HE
        go_wp2_with fail
        go_roundw
        case rel => exact ⟨i + 1, out ++ [a + 1], by omega, by rw [List.length_append, List.length_singleton]; omega, by go_num, HE4, HO4, HB4⟩
        case measure => simp [intOf]; omega
      case pos =>
      rw [hdb] at HDB
      have HAS := hid (HP.out h1 hda hdb)
      have hd1 : 48 ≤ a ∧ a ≤ 57 := by simpa [isDig] using hda
      have hd2 : 48 ≤ b ∧ b ≤ 57 := by simpa [isDig] using hdb
      obtain ⟨v, hv⟩ : ∃ v, v = 130 + 10 * (a - 48) + (b - 48) := ⟨_, rfl⟩
      rw [← hv] at HAS
      obtain ⟨X, hX⟩ : ∃ X, X = (82 + 10 * (a - 48) + b + 48) % 256 := ⟨_, rfl⟩
      have u1 : IntKind.u8.wrap ((a : Int) - 48) = (a : Int) - 48 := by rw [u8wrap]; omega
      have u2 : IntKind.u8.wrap (10 * ((a : Int) - 48)) = 10 * ((a : Int) - 48) := by rw [u8wrap]; omega
      have u3 : IntKind.u8.wrap (130 + 10 * ((a : Int) - 48)) = 130 + 10 * ((a : Int) - 48) := by rw [u8wrap]; omega
      have u4 : IntKind.u8.wrap (130 + 10 * ((a : Int) - 48) + (b : Int)) = (X : Nat) := by rw [u8wrap]; omega
      have u5 : IntKind.u8.wrap ((X : Int) - 48) = (v : Nat) := by rw [u8wrap]; omega
      have u6 : IntKind.i64.wrap ((i : Int) + 1) = (i : Int) + 1 := IntWalk.i64_in _ (by omega)
      have HD1 := hid hd1
      have HD2 := hid hd2
      clear HP HQ hda hdb hv hX hd1 hd2
      go_wp2_with (first | (go_at_call 43; ((with_reducible refine (HDA.out _).mono ?_); rintro e w' ⟨rfl, rfl⟩)) | (go_at_call 43; ((with_reducible refine (HDB.out _).mono ?_); rintro e w' ⟨rfl, rfl⟩)))
      go_region_held3 (fun w' => 0 ≤ w'.heap.size) (exact Nat.zero_le _) ((refine step_app _ (by rfl) _ _ 28 (by rfl) w.heap.size 5 i5 _ 1 Tryd.underlying28 hi hz0 hz1 hz2 rfl _ (u8s out) (by rfl) (HO.out.drew.alloc _) (some ⟨wr.heap.size, 0, none⟩) 1 1 [.int .u8 (v : Nat)] (by rfl) (Rd.one _ _ _) (by intro u hu; rw [List.mem_singleton.1 hu]; rfl) m1.out m2.out (Nat.le_trans m3.out (by simp)) ?_; intro v4 w4 hO4 hg4 hown4))
      all_goals
        have HO4 := hid (show Own w4 w.heap.size 5 v4 (u8s (out ++ [v])) from by unfold u8s at hO4 ⊢; rw [List.map_append]; exact hO4)
        have HE4 := hid (show (out ++ [v]) ++ asciiW (l.drop (i + 2)) = R by rw [← HE.out, HAS.out, List.append_assoc]; rfl)
      all_goals first
        | (have HB4 := hid ((HB.out.alloc hbs (.cells #[.int .u8 (v : Nat)] 5)).drew.grown hg4 (by simp; omega) (fun k hk => (HO.out.lt k hk).1))
           exact ⟨⟨i + 2, out ++ [v], by omega, by rw [List.length_append, List.length_singleton]; omega, by go_num, HE4, HO4, HB4⟩, by simp [intOf]; omega⟩)
        | (have HB4 := hid ((HB.out.drew.alloc hbs (.cells #[.int .u8 (v : Nat)] 5)).grown hg4 (by simp; omega) (fun k hk => (HO.out.lt k hk).1))
           clear hO4 hg4 hown4 HO HB HE u1 u2 u3 u4 u5 u6
           go_wp2_with fail
           go_roundw
           case rel => exact ⟨i + 2, out ++ [v], by omega, by rw [List.length_append, List.length_singleton]; omega, by go_num, HE4, HO4, HB4⟩
           case measure => simp [intOf]; omega)
end Go.Proofs.YtfmjkflihnfneaaDoor
