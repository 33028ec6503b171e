/- spec.dmThrees. -/
import Derived.Test.YtfmjkflihnfneaaDoorDnG
import Derived.Deep.CutBlock
namespace Go.Proofs.YtfmjkflihnfneaaDoor
open Go.RowKit
set_option linter.unusedVariables false
set_option linter.unusedSimpArgs false

theorem thrAll_snoc (m : Nat) (s : List Nat) (i : Nat) (h : i < s.length) : thrAll m (s.take (i + 1)) = thrAll m (s.take i) ++ thrV m (s.getD i 0) := by
  rw [List.take_succ_eq_append_getElem h, thrAll, List.map_append, List.flatten_append, List.getD, List.getElem?_eq_getElem h]
  simp [thrAll]
theorem best_le (m : Nat) (s : List Nat) : ∀ i, (bestTo m s i).2 ≤ (thrAll m (s.take i)).length
  | 0 => by simp [bestTo]
  | i + 1 => by
    have h := best_le m s i
    have hm : (thrAll m (s.take i)).length ≤ (thrAll m (s.take (i + 1))).length := by
      rcases Nat.lt_or_ge i s.length with hi | hi
      · rw [thrAll_snoc m s i hi, List.length_append]; omega
      · rw [List.take_of_length_le hi, List.take_of_length_le (by omega)]; omega
    rw [bestTo]
    split
    · exact Nat.le_refl _
    · omega
theorem ints_app (a b : List Nat) : ints (a ++ b) = ints a ++ ints b := by unfold ints; rw [List.map_append]
theorem ints_one' (l : List Nat) : ∀ u ∈ ints l, u.oneCell' = true := by
  intro u hu
  obtain ⟨n, _, rfl⟩ := List.mem_map.1 hu
  rfl

theorem Own.block {w : World} {B : Nat} {e : TypeId} {v : Value} {xs : List Value} (h : Own w B e v xs) (hn : 0 < xs.length) : ∃ g c, v = .slice (some ⟨g, 0, none⟩) xs.length c ∧ Rd w (some ⟨g, 0, none⟩) xs.length xs ∧ B ≤ g ∧ g < w.heap.size ∧ xs.length ≤ c := by
  obtain ⟨A, c, hv, hR, hlc⟩ := h.form
  rcases h.2 with ⟨h2, hx⟩ | ⟨g, cap, cur, h2, hg, _⟩
  · omega
  · rw [hv] at h2
    simp only [Value.slice.injEq] at h2
    obtain ⟨rfl, _, rfl⟩ := h2
    exact ⟨g, c, hv, hR, hg, (h.lt g (by rw [hv]; rfl)).2, hlc⟩
theorem best_pos (m : Nat) (hm1 : 1 ≤ m) (hm3 : m ≤ 3) (s : List Nat) (hok : ∀ c ∈ s, c ≤ 127 ∧ (m = 3 → x12Ok c = true)) : ∀ i, i ≤ s.length → (bestTo m s i).1 ≠ 0 → (bestTo m s i).2 ≠ 0
  | 0, _, h => by simp [bestTo] at h
  | i + 1, hi, h => by
    have ih := best_pos m hm1 hm3 s hok i (by omega)
    rw [bestTo] at h ⊢
    split
    · simp only
      rw [thrAll_snoc m s i (by omega), List.length_append]
      have hm := hok (s.getD i 0) (by rw [List.getD, List.getElem?_eq_getElem (by omega)]; exact List.getElem_mem _)
      obtain ⟨_, _, _, h1⟩ := one_ok m (s.getD i 0) hm1 hm3 hm.1 hm.2
      omega
    · rename_i hr
      rw [if_neg hr] at h
      exact ih h
theorem ints_lt40 (m : Nat) (hm1 : 1 ≤ m) (hm3 : m ≤ 3) (s : List Nat) (hok : ∀ c ∈ s, c ≤ 127 ∧ (m = 3 → x12Ok c = true)) : ∀ v ∈ thrAll m s, v < 40 := by
  have h := (all_ok m hm1 hm3 s [] hok).1
  generalize thrAll m s = l at h
  generalize 0 = sh at h
  intro v hv
  induction l generalizing sh with
  | nil => cases hv
  | cons x t ih =>
    rw [vAllOk, Bool.and_eq_true] at h
    rcases List.mem_cons.1 hv with rfl | hv
    · have := h.1
      unfold vOk at this
      simp only [Bool.and_eq_true, decide_eq_true_eq] at this
      exact this.1
    · exact ih _ h.2 hv
theorem ints_take (l : List Nat) (k : Nat) : (ints l).take k = ints (l.take k) := by simp [ints, List.map_take]
theorem latchOf_lt (m : Nat) : latchOf m < 256 := by unfold latchOf; split <;> (try split) <;> omega

set_option maxRecDepth 20000 in
set_option maxHeartbeats 4000000 in
theorem threesM (m : Nat) (hm1 : 1 ≤ m) (hm3 : m ≤ 3) (s : List Nat) (hok : ∀ c ∈ s, c ≤ 127 ∧ (m = 3 → x12Ok c = true)) (hl : s.length ≤ 1600) (w : World) :
    Calls Tryd.prog 23 #[.int .i64 (m : Nat), .string (strOf s)] w (BytesNew (threeW m s) w) := by
  obtain ⟨i3, hi, hz0, hz1, hz2⟩ := info_of info3
  obtain ⟨i5, gi, gz0, gz1, gz2⟩ := info_of info5
  have h127 : ∀ c ∈ s, c ≤ 127 := fun c hc => (hok c hc).1
  have h256 : ∀ c ∈ s, c < 256 := fun c hc => by have := h127 c hc; omega
  have hsz := strOf_size s
  have HAT := hid (fun i hi => str_at s h256 i hi)
  have HMEM := hid (fun i (hi : i < s.length) => show s.getD i 0 ∈ s from by rw [List.getD, List.getElem?_eq_getElem hi]; exact List.getElem_mem hi)
  have HOK := hid hok
  obtain ⟨st, hst⟩ : ∃ st, st = strOf s := ⟨_, rfl⟩
  rw [← hst] at hsz HAT ⊢
  have HST := hid hst
  obtain ⟨N, hN⟩ : ∃ N, N = s.length := ⟨_, rfl⟩
  rw [← hN] at hsz hl
  have HN := hid hN
  have HBE := hid (fun i (hi : i ≤ s.length) => best_ok m s i hi)
  have HBP := hid (fun i (hi : i ≤ s.length) => best_pos m hm1 hm3 s hok i hi)
  have H40 := hid (ints_lt40 m hm1 hm3 s hok)
  clear hst hN h256 h127 hok
  go_enter Tryd.func23, Tryd.ntmps23
  go_wp2_with fail
  go_loopg [5, 6, 7, 13] N (fun gk av bv mv iv wr => ∃ (i : Nat), i ≤ N ∧ gk = N - i ∧ iv = .int .i64 (i : Nat) ∧ bv = .int .i64 ((bestTo m s i).1 : Nat) ∧ mv = .int .i64 ((bestTo m s i).2 : Nat) ∧ (thrAll m (s.take i)).length ≤ 2 * i ∧ Hid (Own wr w.heap.size 3 av (ints (thrAll m (s.take i)))) ∧ Hid (Below w.heap.size w wr))
  case atStart => exact ⟨0, by omega, by omega, rfl, rfl, rfl, by simp [thrAll], hid (Own.nil _ _ _), hid (Below.refl _ _)⟩
  case round =>
    obtain ⟨i, hi1, rfl, rfl, rfl, rfl, hal, HO, HB⟩ := hrel
    by_cases hlt : i < N
    case neg =>
      obtain rfl : i = N := by omega
      have hlt' : ¬ (i : Int) < (i : Int) := by omega
      obtain ⟨hb1, hb2, hb3⟩ := HBE.out i (by rw [← HN.out]; omega)
      have hbp := HBP.out i (by rw [← HN.out]; omega)
      clear HBE HBP
      have HR := hid (show threeW m s = if (bestTo m s i).1 = 0 then asciiW s else latchOf m :: (triW ((thrAll m s).take (bestTo m s i).2) ++ 254 :: asciiW (s.drop (bestTo m s i).1)) by rw [threeW, ← HN.out])
      generalize threeW m s = R at *
      have hAA : s.take i = s := by rw [HN.out, List.take_length]
      rw [hAA] at hal HO
      have h2l : (bestTo m s i).2 ≤ (thrAll m s).length := by
        have := best_le m s i
        rw [hAA] at this; exact this
      clear hAA hb2
      generalize bestTo m s i = bm at *
      obtain ⟨be, ma⟩ := bm
      simp only at hb1 hb3 h2l HR hbp
      by_cases h0 : be = 0
      case pos =>
        have hR := HR.out
        rw [if_pos h0] at hR
        subst h0
        have HAS := hid (fun W => asciiM s (fun c hc => (HOK.out c hc).1) (by rw [← HN.out]; omega) W)
        rw [← HST.out] at HAS
        have HRR := hid hR
        clear hR HR
        go_wp2_with (go_at_call 20; ((with_reducible refine (HAS.out _).mono ?_); rintro e w' ⟨v9, rfl, HO9, HB9⟩; obtain ⟨A9, c9, rfl, hR9, _⟩ := HO9.form))
        go_ret
        rw [HRR.out]
        exact ⟨_, rfl, HO9.mono HB.out.size, HB.out.trans (HB9.mono HB.out.size)⟩
      case neg =>
        have hma := hbp h0
        have hR := HR.out
        rw [if_neg h0] at hR
        have HRR := hid hR
        have H40 := hid (fun c hc => H40.out c hc)
        obtain ⟨g, cap, hav, hRd, hgl, hgw, hkc⟩ := HO.out.block (by rw [ints_len]; omega)
        rw [ints_len] at hav hRd hkc
        have HRD := hid (hRd.take ma h2l)
        rw [ints_take] at HRD
        obtain ⟨T, hT⟩ : ∃ T, T = (thrAll m s).take ma := ⟨_, rfl⟩
        rw [← hT] at HRD HRR
        have hTl : T.length = ma := by rw [hT, List.length_take]; omega
        have HT40 := hid (show ∀ c ∈ T, c < 40 from fun c hc => H40.out c (List.mem_of_mem_take (hT ▸ hc)))
        obtain ⟨K, hK⟩ : ∃ K, K = (thrAll m s).length := ⟨_, rfl⟩
        rw [← hK] at hav h2l hal hkc
        obtain ⟨LT, hLT⟩ : ∃ LT, LT = latchOf m := ⟨_, rfl⟩
        rw [← hLT] at HRR
        have hLTl : LT < 256 := by rw [hLT]; exact latchOf_lt m
        have HLT := hid hLT
        subst hav
        have hbs := HB.out.size
        have h0' : ¬ (be : Int) = 0 := by omega
        clear hR HR hT hK hLT hRd H40 hbp h0
        go_upto_block 2 with fail
        go_cut [9] from 42 (fun lv wx => lv = .int .u8 (LT : Nat) ∧ wr = wx)
        case first =>
          have hm : m = 1 ∨ m = 2 ∨ m = 3 := by omega
          have HLT := HLT.out
          clear HRD HRR HT40 HO HB
          rcases hm with rfl | rfl | rfl
          · obtain rfl : LT = 230 := HLT
            go_wp2_with fail
            go_meet
            case rel => exact ⟨rfl, rfl⟩
          · obtain rfl : LT = 239 := HLT
            go_wp2_with fail
            go_meet
            case rel => exact ⟨rfl, rfl⟩
          · obtain rfl : LT = 238 := HLT
            go_wp2_with fail
            go_meet
            case rel => exact ⟨rfl, rfl⟩
        case rest =>
          obtain ⟨rfl, rfl⟩ := hcut
          have HTR := hid (fun W (hR : Rd W (some ⟨g, 0, none⟩) ma (ints T)) (hg : g < W.heap.size) => show Calls Tryd.prog 46 #[.slice (some ⟨g, 0, none⟩) ma cap] W (BytesNew (triW T) W) from hTl ▸ triplesM T HT40.out (by omega) (by omega) g 0 cap W hg (by rw [hTl]; exact hR))
          have HO1 := hid (show Own (wr.alloc (.cells #[.int .u8 (LT : Nat)] 5)) w.heap.size 5 (.slice (some ⟨wr.heap.size, 0, none⟩) 1 1) (u8s [LT]) from Own.lit (w := wr) (B := w.heap.size) (e := 5) #[.int .u8 (LT : Nat)] hbs (by simp [maxLen]))
          have htl : (triW T).length ≤ 3200 := by rw [triW_len T (by omega)]; omega
          have htu := u8s_len (triW T)
          have hml : ma ≤ cap := by omega
          have m1 := hid (show (u8s [LT]).length + (u8s (triW T)).length ≤ maxLen by rw [htu]; simp [maxLen, u8s]; omega)
          have m2 := hid (show ((u8s [LT]).length + (u8s (triW T)).length) * 1 ≤ 140737488355328 by rw [htu]; simp [u8s]; omega)
          clear htu
          go_wp2_with (first | (go_at_call 46; ((with_reducible refine (HTR.out _ (HRD.out.alloc _) (by simp; omega)).mono ?_); rintro e w' ⟨v9, rfl, HO9, HB9⟩; obtain ⟨A9, c9, rfl, hR9, _⟩ := HO9.form; generalize hlv : Value.slice (some ⟨wr.heap.size, 0, none⟩) 1 1 = lv at *)) | (at_builtin; refine wpList_app _ rfl _ _ 28 rfl w.heap.size 5 i5 _ 1 Tryd.underlying28 gi gz0 gz1 gz2 rfl _ (u8s [LT]) rfl (HO1.out.below HB9 (fun k hk => (HO1.out.lt k hk).2)) _ _ _ (u8s (triW T)) rfl hR9 (u8s_one _) m1.out m2.out (Nat.le_trans (HO1.out.lt wr.heap.size (by rw [← hlv]; rfl)).1 (Nat.le_of_lt (Nat.lt_of_lt_of_le (HO1.out.lt wr.heap.size (by rw [← hlv]; rfl)).2 HB9.size))) ?_))
          intro v5 w5 hO5 hg5 hown5
          have hw9 := Nat.le_of_lt (Nat.lt_of_lt_of_le (HO1.out.lt wr.heap.size (by rw [← hlv]; rfl)).2 HB9.size)
          have HO5 := hid (show Own w5 w.heap.size 5 v5 (u8s (LT :: triW T)) from hO5)
          have HB5 := hid ((((HB.out.alloc hbs (.cells #[.int .u8 (LT : Nat)] 5)).trans (HB9.mono (by simp; omega))).grown hg5 (Nat.le_trans hbs hw9) (fun k hk => (HO1.out.lt k hk).1)))
          have hb5 := HB5.out.size
          clear hO5 hg5 hown5 HO1 HO9 HB9 hR9 hlv m1 m2 hw9 HB HO HTR HRD
          obtain ⟨D, hD⟩ : ∃ D, D = s.drop be := ⟨_, rfl⟩
          have hDl : D.length ≤ 1600 := by rw [hD, List.length_drop, ← HN.out]; omega
          have hst : st.extract be i = strOf D := by rw [HST.out, strOf_ext, hD, HN.out]; rw [List.take_of_length_le (by simp)]
          have HAS := hid (fun W => show Calls Tryd.prog 20 #[.string (st.extract be i)] W (BytesNew (asciiW D) W) from by rw [hst]; exact asciiM D (fun c hc => (HOK.out c (List.mem_of_mem_drop (hD ▸ hc))).1) (by omega) W)
          rw [← hD] at HRR
          have hyl := asciiW_len D
          obtain ⟨X, hX⟩ : ∃ X, X = LT :: triW T := ⟨_, rfl⟩
          obtain ⟨Y, hY⟩ : ∃ Y, Y = asciiW D := ⟨_, rfl⟩
          have hXl : X.length ≤ 3201 := by rw [hX, List.length_cons]; omega
          rw [← hY] at HAS hyl HRR
          rw [← hX] at HO5
          have hRe : R = X ++ [254] ++ Y := by rw [HRR.out, hX]; simp
          have HRE := hid hRe
          have m1 := hid (show (u8s X).length + 1 ≤ maxLen by rw [u8s_len]; simp [maxLen]; omega)
          have m2 := hid (show ((u8s X).length + 1) * 1 ≤ 140737488355328 by rw [u8s_len]; omega)
          have m3 := hid (show (u8s X ++ [Value.int .u8 254]).length + (u8s Y).length ≤ maxLen by rw [List.length_append, u8s_len, u8s_len]; simp [maxLen]; omega)
          have m4 := hid (show ((u8s X ++ [Value.int .u8 254]).length + (u8s Y).length) * 1 ≤ 140737488355328 by rw [List.length_append, u8s_len, u8s_len]; simp; omega)
          have hbi : be ≤ i := hb1
          have hbi' : (be : Int) ≤ (i : Int) := by omega
          clear hst hD hX hY HRR hRe HN HST HAT HMEM HOK HLT HT40 hal hkc h2l hgl hgw hTl htl
          go_wp2_with fail
          go_region_held3 (fun w' => 0 ≤ w'.heap.size) (exact Nat.zero_le _)
            (first
              | (go_at_call 20; ((with_reducible refine (HAS.out _).mono ?_); rintro e w7 ⟨v7, rfl, HO7, HB7⟩; obtain ⟨A7, c7, rfl, hR7, _⟩ := HO7.form))
              | (refine step_app _ (by rfl) _ _ 28 (by rfl) w.heap.size 5 i5 _ 1 Tryd.underlying28 gi gz0 gz1 gz2 rfl v5 (u8s X) (by rfl) (by repeat (first | exact HO5.out | with_reducible apply Own.alloc | with_reducible apply Own.drew | with_reducible apply Own.drewN)) _ 1 1 [.int .u8 254] (by rfl) (by repeat (first | (with_reducible refine Rd.one' _ _ _ _ ?_; simp; done) | with_reducible apply Rd.alloc | with_reducible apply Rd.drew | with_reducible apply Rd.drewN)) (by simp [Value.oneCell']) m1.out m2.out (by simp; omega) ?_; intro v6 w6 hO6 hg6 hat6)
              | (refine step_app _ (by rfl) _ _ 28 (by rfl) w.heap.size 5 i5 _ 1 Tryd.underlying28 gi gz0 gz1 gz2 rfl v6 (u8s X ++ [.int .u8 254]) (by rfl) (hO6.below HB7 (fun k hk => (hO6.lt k hk).2)) _ _ _ (u8s Y) (by rfl) hR7 (u8s_one _) m3.out m4.out (Nat.le_trans hb5 (Nat.le_trans (by simp) (Nat.le_trans hg6.size HB7.size))) ?_; intro v8 w8 hO8 hg8 hat8))
          have HO8 := hid (show Own w8 w.heap.size 5 v8 (u8s R) from by rw [HRE.out]; unfold u8s at hO8 ⊢; rw [List.map_append, List.map_append]; exact hO8)
          have HB6 := hid ((HB5.out.alloc hb5 (.cells #[.int .u8 254] 5)).drew.grown hg6 (Nat.le_trans hb5 (by simp)) (fun k hk => (HO5.out.lt k hk).1))
          have HB8 := hid ((HB6.out.trans (HB7.mono HB6.out.size)).grown hg8 (Nat.le_trans HB6.out.size HB7.size) (fun k hk => (hO6.lt k hk).1))
          clear hO8 hg8 hat8 hO6 hg6 hat6 HB7 HO7 hR7 HB6
          obtain ⟨A9, c9, hv, _, _⟩ := HO8.out.form
          subst hv
          go_wp2_with fail
          go_ret
          exact ⟨_, rfl, HO8.out, HB8.out⟩
    case pos =>
      have hlt' : (i : Int) < (N : Int) := by omega
      have his : i < st.size := by omega
      have hi' : i < s.length := by rw [← HN.out]; exact hlt
      have hx := HAT.out i his
      obtain ⟨hc1, hc2⟩ := HOK.out _ (HMEM.out i hi')
      have HSN := hid (thrAll_snoc m s i hi')
      generalize s.getD i 0 = c at *
      obtain ⟨_, _, hv2, _⟩ := one_ok m c hm1 hm3 hc1 hc2
      have HBS := hid (show bestTo m s (i + 1) = if (thrAll m (s.take (i + 1))).length % 3 = 0 then (i + 1, (thrAll m (s.take (i + 1))).length) else bestTo m s i from rfl)
      have hbs := HB.out.size
      obtain ⟨A, hA⟩ : ∃ A, A = thrAll m (s.take i) := ⟨_, rfl⟩
      obtain ⟨A2, hA2⟩ : ∃ A2, A2 = thrAll m (s.take (i + 1)) := ⟨_, rfl⟩
      have hAI := ints_len A
      rw [← hA] at hal HO HSN
      rw [← hA2] at HSN HBS
      go_upto_if 17 with fail
      go_cut [5] from 14 to 41 (fun av wx => Hid (Own wx w.heap.size 3 av (ints A2)) ∧ Hid (Below w.heap.size w wx))
      case first =>
        by_cases h3 : m = 3
        case pos =>
          have hX : x12R c = (x12V c : Nat) := by unfold x12R; rw [if_pos (hc2 h3)]
          have hT : thrV m c = [x12V c] := by unfold thrV; rw [if_pos h3]
          rw [hT] at HSN
          have HX := hid (fun W => x12M c (by omega) W)
          rw [hX] at HX
          have m1 := hid (show (ints A).length + 1 ≤ maxLen by rw [hAI]; simp [maxLen]; omega)
          have m2 := hid (show ((ints A).length + 1) * 8 ≤ 140737488355328 by rw [hAI]; omega)
          have m3 := hid HB.out.size
          have h3' : ((m : Int) == 3) = true := by simp; omega
          clear h3 hX hT hA hA2 hAI hal hc2
          generalize x12V c = z at *
          go_wp2_with (first | (go_at_call 19; ((with_reducible refine (HX.out _).mono ?_); rintro e w' ⟨rfl, rfl⟩)) | (at_builtin; refine wpList_app _ rfl _ _ 82 rfl w.heap.size 3 i3 _ 8 Tryd.underlying82 hi hz0 hz1 hz2 rfl _ (ints A) rfl (HO.out.alloc _) _ 1 1 [.int .i64 (z : Nat)] rfl (Rd.one' _ _ _ _ rfl) (ints_one z) m1.out m2.out (Nat.le_trans m3.out (by simp)) ?_))
          intro v5 w5 hO5 hg5 hown5
          have HO5 := hid (show Own w5 w.heap.size 3 v5 (ints A2) from by rw [HSN.out, ints_snoc]; exact hO5)
          have HB5 := hid ((HB.out.alloc hbs (.cells #[.int .i64 (z : Nat)] 3)).grown hg5 (by simp; omega) (fun k hk => (HO.out.lt k hk).1))
          clear hO5 hg5 hown5 HO HB
          go_wp2_with fail
          go_meet
          case rel => exact ⟨HO5, HB5⟩
        case neg =>
          have h3' : ((m : Int) == 3) = false := by simp; omega
          have hT : thrV m c = dmVals c (m == 2) := by unfold thrV; rw [if_neg h3]
          rw [hT] at HSN hv2
          have eb : ((m : Int) == 2) = (m == 2) := by rw [Bool.eq_iff_iff]; simp; omega
          have HV := hid (fun W => show Calls Tryd.prog 45 #[.int .u8 (c : Nat), .bool ((m : Int) == 2)] W (IntsNew (dmVals c (m == 2)) W) from by rw [eb]; exact valuesM c (by omega) _ W)
          generalize dmVals c (m == 2) = V at *
          have hVI := ints_len V
          have m1 := hid (show (ints A).length + (ints V).length ≤ maxLen by rw [hAI, hVI]; simp [maxLen]; omega)
          have m2 := hid (show ((ints A).length + (ints V).length) * 8 ≤ 140737488355328 by rw [hAI, hVI]; omega)
          clear hT hA hA2 hAI hVI hal hc2 eb
          go_wp2_with (first | (go_at_call 45; ((with_reducible refine (HV.out _).mono ?_); rintro e w' ⟨v9, rfl, HO9, HB9⟩; obtain ⟨A9, c9, rfl, hR9, _⟩ := HO9.form)) | (at_builtin; refine wpList_app _ rfl _ _ 82 rfl w.heap.size 3 i3 _ 8 Tryd.underlying82 hi hz0 hz1 hz2 rfl _ (ints A) rfl (HO.out.below HB9 (fun k hk => (HO.out.lt k hk).2)) _ _ _ (ints V) rfl hR9 (ints_one' V) m1.out m2.out (Nat.le_trans hbs HB9.size) ?_))
          intro v5 w5 hO5 hg5 hown5
          have HO5 := hid (show Own w5 w.heap.size 3 v5 (ints A2) from by rw [HSN.out, ints_app]; exact hO5)
          have HB5 := hid (below_app (HB.out.trans (HB9.mono hbs)) (HO.out.below HB9 (fun k hk => (HO.out.lt k hk).2)) hg5 (Nat.le_refl _) (Nat.le_trans hbs HB9.size))
          clear hO5 hg5 hown5 HO HB
          go_wp2_with fail
          go_meet
          case rel => exact ⟨HO5, HB5⟩
      case rest =>
        obtain ⟨HO2, HB2⟩ := hcut
        have hl2 : A2.length ≤ 2 * (i + 1) := by rw [HSN.out, List.length_append]; omega
        obtain ⟨Q, hQ⟩ : ∃ Q, Q = A2.length := ⟨_, rfl⟩
        have hlq : (ints A2).length = Q := by rw [ints_len, hQ]
        obtain ⟨A9, c9, hv9, _, _⟩ := HO2.out.form
        rw [hlq] at hv9
        subst hv9
        rw [← hQ] at HBS hl2
        have HQ := hid hQ
        have HA2 := hid hA2
        clear hQ hA2 hlq hA hAI hal hc2
        by_cases hr : Q % 3 = 0
        case pos =>
          have hr' : (Q : Int) % 3 = 0 := by omega
          have hb := HBS.out
          rw [if_pos hr] at hb
          go_wp2_with fail
          go_roundg (N - (i + 1))
          case measure => omega
          case rel => exact ⟨i + 1, by omega, rfl, by go_num, by rw [hb]; go_num, by rw [hb], by rw [← HA2.out, ← HQ.out]; exact hl2, hid (by rw [← HA2.out]; exact HO2.out), HB2⟩
        case neg =>
          have hr' : ¬ (Q : Int) % 3 = 0 := by omega
          have hb := HBS.out
          rw [if_neg hr] at hb
          go_wp2_with fail
          go_roundg (N - (i + 1))
          case measure => omega
          case rel => exact ⟨i + 1, by omega, rfl, by go_num, by rw [hb], by rw [hb], by rw [← HA2.out, ← HQ.out]; exact hl2, hid (by rw [← HA2.out]; exact HO2.out), HB2⟩
end Go.Proofs.YtfmjkflihnfneaaDoor
