/- QR codes: FnRQJoins: spec.RQOrder, spec.RQSequence, newSAComparator. -/
import Derived.Test.YtpffffhgmhpkiaaJnG
namespace Go.Proofs.Ytpffffhgmhpkiaa
open Go.RowKit
set_option linter.unusedVariables false
set_option linter.unusedSimpArgs false

theorem Rd.drop {w : World} {b o n : Nat} {l : List Value} (h : Rd w (some ⟨b, o, none⟩) n l) (k : Nat) (hk : k ≤ n) : Rd w (some ⟨b, o + k, none⟩) (n - k) (l.drop k) := by
  refine ⟨by rw [List.length_drop, h.1], fun hn => ?_⟩
  obtain ⟨b', o', e, hb, hc⟩ := h.2 (by omega)
  injection e with e
  injection e with e1 e2
  subst e1; subst e2
  refine ⟨b, o + k, rfl, hb, fun j hj => ?_⟩
  rw [List.length_drop] at hj
  rw [List.getElem_drop, Nat.add_assoc]
  exact hc (k + j) (by omega)
def OrderOut (N : Nat) (w : World) (e : Ending) (w' : World) : Prop :=
  ∃ A c o, e = .returned (.slice A N c) ∧ N ≤ c ∧ Rd w' A N (ints o) ∧ o.Perm (List.range N) ∧ Below w.heap.size w w'
theorem ints_rng (l : List Nat) (k : Nat) (h : k < l.length) : (ints l)[k]? = some (.int .i64 (l.getD k 0 : Nat)) := by
  simp [ints, List.getD, List.getElem?_eq_getElem h]
theorem ints_append (l m : List Nat) : ints (l ++ m) = ints l ++ ints m := by simp [ints]
theorem ints_ones (l : List Nat) : ∀ u ∈ ints l, u.oneCell' = true := by
  intro u hu
  obtain ⟨x, _, rfl⟩ := List.mem_map.1 hu
  rfl
theorem Own.lit0 (w : World) (e : TypeId) : Own (w.alloc (.cells #[] e)) w.heap.size e (.slice (some ⟨w.heap.size, 0, none⟩) 0 0) [] :=
  Own.ofArr (Arr.of_new w e #[]) (Nat.le_refl _) (by simp [maxLen])
theorem Own.rd' {w : World} {B : Nat} {e : TypeId} {A : Option Addr} {n c : Nat} {xs : List Value} (h : Own w B e (.slice A n c) xs) : Rd w A n xs := by
  obtain ⟨A', c', hv, hR, _⟩ := h.form
  injection hv with e1 e2 e3
  subst e1; subst e2
  exact hR
set_option maxRecDepth 20000 in
set_option maxHeartbeats 8000000 in
theorem orderQ (N : Nat) (hN : N ≤ 32) (A : Option Addr) (n c : Nat) (zs : List Nat) (w : World) (hR : Rd w A n (u8s zs)) (h8 : ∀ x ∈ zs, x < 256) (hn : n ≤ 9223372036854775807) : Calls Try.prog 10 #[.slice A n c, .int .i64 N] w (OrderOut N w) := by
  obtain ⟨i3, gi, gz0, gz1, gz2⟩ := info_of info3
  have HR := hid hR
  have H8 := hid h8
  clear hR h8
  go_enter Try.func10, Try.ntmps10
  go_wp2_with fail
  go_loopw [5, 7] (fun lv iv wr => ∃ i : Nat, i ≤ N ∧ iv = .int .i64 (i : Nat) ∧ Hid (Own wr w.heap.size 3 lv (ints (List.range i))) ∧ Hid (Below w.heap.size w wr)) (fun _ iv _ => N - (intOf iv).toNat)
  case atStart => exact ⟨0, by omega, rfl, hid (Own.nil _ _ _), hid (Below.refl _ _)⟩
  case round =>
    obtain ⟨i, hi, rfl, HO, HB⟩ := hrel
    have hbs := HB.out.size
    by_cases hlt : i < N
    · have hlt' : (i : Int) < (N : Int) := by omega
      go_wp2_with ((at_builtin; refine wpList_app _ rfl _ _ 31 rfl w.heap.size 3 i3 _ 8 Try.underlying31 gi gz0 gz1 gz2 rfl _ (ints (List.range i)) rfl (HO.out.alloc _) (some ⟨wr.heap.size, 0, none⟩) 1 1 [.int .i64 (i : Nat)] rfl (Rd.one _ _ _) (ints_one i) (by rw [ints_len, List.length_range]; simp only [maxLen]; omega) (by rw [ints_len, List.length_range]; omega) (by simp; omega) ?_))
      intro v5 w5 hO5 hg5 ho5
      have HO5 := hid (show Own w5 w.heap.size 3 v5 (ints (List.range (i + 1))) from by rw [List.range_succ, ints_snoc]; exact hO5)
      have HB5 := hid (below_app (HB.out.alloc hbs (.cells #[.int .i64 (i : Nat)] 3)) (HO.out.alloc _) hg5 (Nat.le_refl _) (by simp; omega))
      clear hO5 hg5 ho5
      go_wp2_with fail
      go_roundw
      case rel => first | exact ⟨i + 1, by omega, by go_num, HO5, HB5⟩ | ((repeat apply Exists.intro); exact ⟨⟨i + 1, by omega, rfl, HO5, HB5⟩, rfl⟩)
      case measure => first | (simp [intOf]; done) | (simp [intOf]; omega)
    · obtain rfl : i = N := by omega
      have hlt' : ¬ (i : Int) < (i : Int) := by omega
      go_wp2_with fail
      go_loopw [5, 6, 8] (fun lv ov jv wr => ∃ (j : Nat) (l o : List Nat), j ≤ i ∧ l.length = i - j ∧ jv = .int .i64 (j : Nat) ∧ Hid ((o ++ l).Perm (List.range i)) ∧ Hid (Own wr w.heap.size 3 lv (ints l)) ∧ Hid (Own wr w.heap.size 3 ov (ints o)) ∧ Hid (∀ k, lv.ownBlock = some k → ov.ownBlock ≠ some k) ∧ Hid (Below w.heap.size w wr)) (fun _ _ jv _ => i - (intOf jv).toNat)
      case atStart => exact ⟨0, List.range i, [], by omega, by simp, rfl, hid (by simp), HO, hid (Own.nil _ _ _), hid (fun k _ h => by cases h), HB⟩
      case round =>
        clear HO HB
        obtain ⟨j, l, o, hj, hl, rfl, HP, HL, HO, HD, HB⟩ := hrel
        have hbs := HB.out.size
        obtain ⟨A5, c5, hv5, hR5, hc5⟩ := HL.out.form
        obtain ⟨A6, c6, hv6, hR6, hc6⟩ := HO.out.form
        rw [ints_len] at hv5 hR5 hc5 hv6 hR6 hc6
        obtain ⟨ll, hll⟩ : ∃ ll, ll = l.length := ⟨_, rfl⟩
        obtain ⟨ol, hol⟩ : ∃ ol, ol = o.length := ⟨_, rfl⟩
        rw [← hll] at hv5 hR5 hc5
        rw [← hol] at hv6 hR6 hc6
        have hlj : ll = i - j := by omega
        have hpl := HP.out.length_eq
        rw [List.length_append, List.length_range] at hpl
        have hoj : ol = j := by omega
        have HLJ := hid hlj
        have HOJ := hid hoj
        have HLL := hid hll
        have HOL := hid hol
        have hll1 : ll ≤ 32 := by omega
        have hol1 : ol ≤ 32 := by omega
        subst hv5; subst hv6
        by_cases hz : j < i
        · have hz1 : 1 ≤ ll := by omega
          have hz' : (0 : Int) < (ll : Int) := by omega
          clear hpl hl hll hol hlj hoj
          obtain ⟨b5, o5, hA5, hb5, hcell5⟩ := hR5.2 hz1
          subst hA5
          have hk : ∃ k, k < ll ∧ ((∃ b0 o0 z, A = some ⟨b0, o0, none⟩ ∧ (j : Int) < (n : Int) ∧ wr.cell? ⟨b0, o0 + j, none⟩ = some (.int .u8 ((z : Nat) : Int)) ∧ wrap64 ((z : Nat) : Int) = (z : Int) ∧ (z : Int).tmod (ll : Int) = (k : Int)) ∨ (¬ (j : Int) < (n : Int) ∧ k = 0)) := by
            by_cases hin : j < n
            · obtain ⟨b0, o0, hA0, hb0, hcell0⟩ := (HR.out.below HB.out).2 (by omega)
              have hjz : j < (u8s zs).length := by rw [HR.out.1]; exact hin
              have c0 := hcell0 j hjz
              simp only [u8s, List.getElem_map] at c0
              have hjz2 : j < zs.length := by rwa [u8s_len] at hjz
              have hzz := H8.out _ (List.getElem_mem hjz2)
              generalize zs[j]'hjz2 = z at c0 hzz
              refine ⟨z % ll, Nat.mod_lt _ (by omega), .inl ⟨b0, o0, z, hA0, by omega, c0, wrap64_nat _ (by omega), ?_⟩⟩
              rw [Int.tmod_eq_emod_of_nonneg (by omega)]; rfl
            · exact ⟨0, by omega, .inr ⟨by omega, rfl⟩⟩
          obtain ⟨k, hk, hkk⟩ := hk
          have c5k := hcell5 k (by rw [ints_len, ← HLL.out]; exact hk)
          rw [show (ints l)[k]'(by rw [ints_len, ← HLL.out]; exact hk) = .int .i64 (l.getD k 0 : Nat) from by
            have := ints_rng l k (by rw [← HLL.out]; exact hk)
            rw [List.getElem?_eq_getElem (by rw [ints_len, ← HLL.out]; exact hk)] at this
            exact Option.some.inj this] at c5k
          have HP2 := hid (ord_step HP.out k (by rw [← HLL.out]; exact hk))
          have hk0 : (0 : Int) ≤ (k : Int) ∧ (k : Int) < (ll : Int) := by omega
          have hk1 : (0 : Int) ≤ (k : Int) + 1 ∧ (k : Int) + 1 ≤ (ll : Int) := by omega
          have hk2 : ((k : Int) + 1).toNat = k + 1 := by omega
          have hk3 : (k : Int) ≤ (c5 : Int) := by omega
          generalize l.getD k 0 = x at *
          clear hcell5
          rcases hkk with ⟨b0, o0, z, rfl, hin', c0, hz1', hz2'⟩ | ⟨hin', rfl⟩
          · go_wp2_with ((at_builtin; refine wpList_app _ rfl _ _ 31 rfl w.heap.size 3 i3 _ 8 Try.underlying31 gi gz0 gz1 gz2 rfl _ (ints o) rfl (HO.out.alloc _) (some ⟨wr.heap.size, 0, none⟩) 1 1 [.int .i64 (x : Nat)] rfl (Rd.one _ _ _) (ints_one x) (by rw [ints_len, ← HOL.out]; simp only [maxLen]; omega) (by rw [ints_len, ← HOL.out]; omega) (by simp; omega) ?_))
            intro v5 w5 hO5 hg5 ho5
            have HO5 := hid (show Own w5 w.heap.size 3 v5 (ints (o ++ [x])) from by rw [ints_snoc]; exact hO5)
            have HB5 := hid (below_app (HB.out.alloc hbs (.cells #[.int .i64 (x : Nat)] 3)) (HO.out.alloc _) hg5 (Nat.le_refl _) (by simp; omega))
            have HL5 := hid ((HL.out.alloc (.cells #[.int .i64 (x : Nat)] 3)).keep hg5 (.inr (by intro e; exact HD.out b5 rfl e.symm)))
            have HLT := hid (Own.lit0 w5 3)
            have hb5l := (HL5.out.lt b5 rfl).2
            have hb5s := HB5.out.size
            have hol2 := HO5.out.lt
            have HT5 := hid (((HL5.out.alloc (.cells #[] 3)).rd').take k (by omega))
            clear hO5 hg5
            go_wp2_with ((at_builtin; generalize hlv : Value.slice (some ⟨w5.heap.size, 0, none⟩) 0 0 = lv at *; refine wpList_app _ rfl _ _ 31 rfl w5.heap.size 3 i3 _ 8 Try.underlying31 gi gz0 gz1 gz2 rfl _ [] rfl HLT.out (some ⟨b5, o5, none⟩) k c5 ((ints l).take k) rfl HT5.out (fun u hu => ints_ones l u (List.mem_of_mem_take hu)) (by simp only [List.length_nil, maxLen]; omega) (by simp only [List.length_nil]; omega) (by simp) ?_))
            intro v7 w7 hO7 hg7 ho7
            have HO7 := hid (show Own w7 w5.heap.size 3 v7 (ints (l.take k)) from by rw [ints, List.map_take]; exact hO7)
            have HL7 := hid ((HL5.out.alloc (.cells #[] 3)).keep hg7 (.inr (by intro e; rw [← hlv] at e; have e : some b5 = some w5.heap.size := e; injection e with e; omega)))
            have HO57 := hid ((HO5.out.alloc (.cells #[] 3)).keep hg7 (.inr (by intro e; rw [← hlv] at e; have := (hol2 _ e).2; simp at this)))
            have hg7s := hg7.size
            rw [World.size_alloc] at hg7s
            have HB7 := hid (below_app (HB5.out.alloc hb5s (.cells #[] 3)) HLT.out hg7 (by omega) (by rw [World.size_alloc]; omega))
            have HTL := hid (fun (A' : Option Addr) (h : k + 1 = ll ∨ A' = some ⟨b5, o5 + (k + 1), none⟩) => show Rd w7 A' (ll - (k + 1)) (ints (l.drop (k + 1))) from by
              rw [ints, List.map_drop]
              rcases h with h | rfl
              · rw [List.drop_eq_nil_of_le (by rw [List.length_map, ← HLL.out]; omega), show ll - (k + 1) = 0 by omega]; exact Rd.nil
              · exact HL7.out.rd'.drop (k + 1) (by omega))
            have HM1 := hid (show (l.take k).length + (ll - (k + 1)) ≤ 32 by rw [List.length_take, ← HLL.out]; omega)
            have HHP := hid (show ((o ++ [x]) ++ (l.take k ++ l.drop (k + 1))).Perm (List.range i) from HP2.out)
            have HLN := hid (show (l.take k ++ l.drop (k + 1)).length = i - (j + 1) by rw [List.length_append, List.length_take, List.length_drop, ← HLL.out]; have := HLJ.out; omega)
            have hv7b : ∀ k, v7.ownBlock = some k → w5.heap.size ≤ k := fun k hk => (HO7.out.lt k hk).1
            clear hO7 hg7 ho7 HLT hlv ho5 HT5 HP2
            obtain ⟨A7, c7, hv7, _, _⟩ := HO7.out.form
            obtain ⟨t7, ht7⟩ : ∃ t7, t7 = (ints (l.take k)).length := ⟨_, rfl⟩
            rw [← ht7] at hv7
            clear ht7
            have HTK := hid (rfl : ints (l.take k) = ints (l.take k))
            subst hv7
            by_cases hcc : c5 = k + 1
            all_goals (
              go_wp2_with ((at_builtin; refine wpList_app _ rfl _ _ 31 rfl w5.heap.size 3 i3 _ 8 Try.underlying31 gi gz0 gz1 gz2 rfl _ (ints (l.take k)) rfl HO7.out _ (ll - (k + 1)) _ (ints (l.drop (k + 1))) rfl (HTL.out _ (by first | exact .inr rfl | exact .inl (by omega))) (ints_ones _) (by have := HM1.out; rw [ints_len]; simp only [maxLen]; omega) (by have := HM1.out; rw [ints_len]; omega) (by omega) ?_))
              intro v8 w8 hO8 hg8 ho8
              have HO8 := hid (show Own w8 w.heap.size 3 v8 (ints (l.take k ++ l.drop (k + 1))) from by rw [ints_append]; first | exact hO8.mono hb5s | simpa [ints] using hO8.mono hb5s)
              have HO58 := hid (HO57.out.keep hg8 (by cases hvb : v5.ownBlock with | none => exact .inl rfl | some q => exact .inr (fun e => by have h1 := (hol2 q hvb).2; have h2 := hv7b q e.symm; omega)))
              have HB8 := hid (below_app HB7.out HO7.out hg8 hb5s (by omega))
              have HD8 := hid (show ∀ k, v8.ownBlock = some k → v5.ownBlock ≠ some k from fun k h1 h2 => by
                have h3 := (hol2 k h2).2
                have h4 := (hO8.lt k h1).1
                omega)
              clear hO8 hg8 ho8
              go_wp2_with fail
              go_roundw
              case rel => first | exact ⟨j + 1, _, _, by omega, HLN.out, by go_num, HHP, HO8, HO58, HD8, HB8⟩ | ((repeat apply Exists.intro); exact ⟨⟨j + 1, _, _, by omega, HLN.out, rfl, HHP, HO8, HO58, HD8, HB8⟩, rfl⟩)
              case measure => first | (simp [intOf]; done) | (simp [intOf]; omega))
          · have c5z : wr.cell? ⟨b5, o5, none⟩ = some (.int .i64 (x : Nat)) := c5k
            have hk6 : (1 : Int) ≤ (ll : Int) := by omega
            clear c5k hk0 hk1 hk2 hk3
            go_wp2_with ((at_builtin; refine wpList_app _ rfl _ _ 31 rfl w.heap.size 3 i3 _ 8 Try.underlying31 gi gz0 gz1 gz2 rfl _ (ints o) rfl (HO.out.alloc _) (some ⟨wr.heap.size, 0, none⟩) 1 1 [.int .i64 (x : Nat)] rfl (Rd.one _ _ _) (ints_one x) (by rw [ints_len, ← HOL.out]; simp only [maxLen]; omega) (by rw [ints_len, ← HOL.out]; omega) (by simp; omega) ?_))
            intro v5 w5 hO5 hg5 ho5
            have HO5 := hid (show Own w5 w.heap.size 3 v5 (ints (o ++ [x])) from by rw [ints_snoc]; exact hO5)
            have HB5 := hid (below_app (HB.out.alloc hbs (.cells #[.int .i64 (x : Nat)] 3)) (HO.out.alloc _) hg5 (Nat.le_refl _) (by simp; omega))
            have HL5 := hid ((HL.out.alloc (.cells #[.int .i64 (x : Nat)] 3)).keep hg5 (.inr (by intro e; exact HD.out b5 rfl e.symm)))
            have HLT := hid (Own.lit0 w5 3)
            have hb5l := (HL5.out.lt b5 rfl).2
            have hb5s := HB5.out.size
            have hol2 := HO5.out.lt
            have HT5 := hid (((HL5.out.alloc (.cells #[] 3)).rd').take 0 (by omega))
            clear hO5 hg5
            go_wp2_with ((at_builtin; generalize hlv : Value.slice (some ⟨w5.heap.size, 0, none⟩) 0 0 = lv at *; refine wpList_app _ rfl _ _ 31 rfl w5.heap.size 3 i3 _ 8 Try.underlying31 gi gz0 gz1 gz2 rfl _ [] rfl HLT.out (some ⟨b5, o5, none⟩) 0 c5 ((ints l).take 0) rfl HT5.out (fun u hu => ints_ones l u (List.mem_of_mem_take hu)) (by simp only [List.length_nil, maxLen]; omega) (by simp only [List.length_nil]; omega) (by simp) ?_))
            intro v7 w7 hO7 hg7 ho7
            have HO7 := hid (show Own w7 w5.heap.size 3 v7 (ints (l.take 0)) from by rw [ints, List.map_take]; exact hO7)
            have HL7 := hid ((HL5.out.alloc (.cells #[] 3)).keep hg7 (.inr (by intro e; rw [← hlv] at e; have e : some b5 = some w5.heap.size := e; injection e with e; omega)))
            have HO57 := hid ((HO5.out.alloc (.cells #[] 3)).keep hg7 (.inr (by intro e; rw [← hlv] at e; have := (hol2 _ e).2; simp at this)))
            have hg7s := hg7.size
            rw [World.size_alloc] at hg7s
            have HB7 := hid (below_app (HB5.out.alloc hb5s (.cells #[] 3)) HLT.out hg7 (by omega) (by rw [World.size_alloc]; omega))
            have HTL := hid (fun (A' : Option Addr) (h : 1 = ll ∨ A' = some ⟨b5, o5 + (1), none⟩) => show Rd w7 A' (ll - (1)) (ints (l.drop (1))) from by
              rw [ints, List.map_drop]
              rcases h with h | rfl
              · rw [List.drop_eq_nil_of_le (by rw [List.length_map, ← HLL.out]; omega), show ll - (1) = 0 by omega]; exact Rd.nil
              · exact HL7.out.rd'.drop (1) (by omega))
            have HM1 := hid (show (l.take 0).length + (ll - (1)) ≤ 32 by rw [List.length_take, ← HLL.out]; omega)
            have HHP := hid (show ((o ++ [x]) ++ (l.take 0 ++ l.drop (1))).Perm (List.range i) from HP2.out)
            have HLN := hid (show (l.take 0 ++ l.drop (1)).length = i - (j + 1) by rw [List.length_append, List.length_take, List.length_drop, ← HLL.out]; have := HLJ.out; omega)
            have hv7b : ∀ k, v7.ownBlock = some k → w5.heap.size ≤ k := fun k hk => (HO7.out.lt k hk).1
            clear hO7 hg7 ho7 HLT hlv ho5 HT5 HP2
            obtain ⟨A7, c7, hv7, _, _⟩ := HO7.out.form
            obtain ⟨t7, ht7⟩ : ∃ t7, t7 = (ints (l.take 0)).length := ⟨_, rfl⟩
            rw [← ht7] at hv7
            clear ht7
            have HTK := hid (rfl : ints (l.take 0) = ints (l.take 0))
            subst hv7
            by_cases hcc : c5 = 1
            all_goals (
              go_wp2_with ((at_builtin; refine wpList_app _ rfl _ _ 31 rfl w5.heap.size 3 i3 _ 8 Try.underlying31 gi gz0 gz1 gz2 rfl _ (ints (l.take 0)) rfl HO7.out _ (ll - (1)) _ (ints (l.drop (1))) rfl (HTL.out _ (by first | exact .inr rfl | exact .inl (by omega))) (ints_ones _) (by have := HM1.out; rw [ints_len]; simp only [maxLen]; omega) (by have := HM1.out; rw [ints_len]; omega) (by omega) ?_))
              intro v8 w8 hO8 hg8 ho8
              have HO8 := hid (show Own w8 w.heap.size 3 v8 (ints (l.take 0 ++ l.drop (1))) from by rw [ints_append]; first | exact hO8.mono hb5s | simpa [ints] using hO8.mono hb5s)
              have HO58 := hid (HO57.out.keep hg8 (by cases hvb : v5.ownBlock with | none => exact .inl rfl | some q => exact .inr (fun e => by have h1 := (hol2 q hvb).2; have h2 := hv7b q e.symm; omega)))
              have HB8 := hid (below_app HB7.out HO7.out hg8 hb5s (by omega))
              have HD8 := hid (show ∀ k, v8.ownBlock = some k → v5.ownBlock ≠ some k from fun k h1 h2 => by
                have h3 := (hol2 k h2).2
                have h4 := (hO8.lt k h1).1
                omega)
              clear hO8 hg8 ho8
              go_wp2_with fail
              go_roundw
              case rel => first | exact ⟨j + 1, _, _, by omega, HLN.out, by go_num, HHP, HO8, HO58, HD8, HB8⟩ | ((repeat apply Exists.intro); exact ⟨⟨j + 1, _, _, by omega, HLN.out, rfl, HHP, HO8, HO58, HD8, HB8⟩, rfl⟩)
              case measure => first | (simp [intOf]; done) | (simp [intOf]; omega))
        · obtain rfl : j = i := by omega
          have hl0 : l = [] := List.eq_nil_of_length_eq_zero (by rw [← HLL.out]; omega)
          subst hl0
          obtain rfl : ll = 0 := by omega
          have HPO := hid (show o.Perm (List.range j) from by have := HP.out; rwa [List.append_nil] at this)
          have HRO := hid (show Rd wr A6 j (ints o) from by have := hR6; rwa [hoj] at this)
          have HC6 := hid (show j ≤ c6 by omega)
          have hjj : ¬ (0 : Int) < (0 : Int) := by omega
          clear HLJ HLL HOL hR6 hlj hR5 hoj hpl hll hol hz hc5 hc6
          go_wp2_with fail
          go_ret
          exact ⟨A6, c6, o, by rw [← HOJ.out]; rfl, HC6.out, HRO.out, HPO.out, HB.out⟩
theorem compQ (A : Option Addr) (n c : Nat) (w : World) : Calls Try.prog 105 #[.slice A n c] w fun e w' => e = .returned (.func (.func 127) #[] #[.pointer (some ⟨w.heap.size, 0, none⟩)]) ∧ w' = w.alloc (.cells #[.slice A n c] 60) := by
  go_enter Try.func105, Try.ntmps105
  go_wp2_with fail
  go_ret
  exact ⟨rfl, rfl⟩
theorem seqQ (i n : Nat) (hi : i < 16) (hn : n < 16) (w : World) : Calls Try.prog 8 #[.int .i64 (i : Nat), .int .i64 ((n : Nat) + 1)] w fun e w' => e = .returned (.int .i64 ((16 * i + n : Nat) : Int)) ∧ w = w' := by
  have ho : ∀ i, i < 16 → ∀ n, n < 16 → 16 * i ||| n = 16 * i + n := by decide
  have e : bits BinOp.or IntKind.i64 ((i : Int) * 16) (n : Int) = ((16 * i + n : Nat) : Int) := by
    rw [show (i : Int) * 16 = ((16 * i : Nat) : Int) by omega, i64_or _ _ (by omega) (by omega), ho i hi n hn]
  clear ho
  go_enter Try.func8, Try.ntmps8
  go_wp2_with fail
  go_ret
  exact ⟨rfl, rfl⟩
end Go.Proofs.Ytpffffhgmhpkiaa
