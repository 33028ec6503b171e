/- spec.DMPadded. -/
import Derived.Test.YtfmjkflihnfneaaDoorDnH
namespace Go.Proofs.YtfmjkflihnfneaaDoor
open Go.RowKit
set_option linter.unusedVariables false
set_option linter.unusedSimpArgs false

set_option maxRecDepth 20000 in
set_option maxHeartbeats 4000000 in
theorem paddedM (l : List Nat) (hl : l.length ≤ 2000) (many : Nat) (hmn : many ≤ 2000) (A : Option Addr) (c : Nat) (w : World) (hR : Rd w A l.length (u8s l)) :
    Calls Tryd.prog 11 #[.slice A l.length c, .int .i64 (many : Nat)] w (BytesNew (padW l many) w) := by
  obtain ⟨i5, gi, gz0, gz1, gz2⟩ := info_of info5
  obtain ⟨N, hN⟩ : ∃ N, N = l.length := ⟨_, rfl⟩
  rw [← hN] at hl hR ⊢
  have HN := hid hN
  have HR := hid hR
  clear hN hR
  have HO0 := hid (show Own (w.alloc (.cells #[] 5)) w.heap.size 5 (.slice (some ⟨w.heap.size, 0, none⟩) 0 0) (u8s []) from Own.lit (w := w) (B := w.heap.size) (e := 5) #[] (Nat.le_refl _) (by simp [maxLen]))
  have m1 := hid (show (u8s []).length + N ≤ maxLen by simp [maxLen, u8s]; omega)
  have m2 := hid (show ((u8s []).length + N) * 1 ≤ 140737488355328 by simp [u8s]; omega)
  have hul := u8s_one l
  go_enter Tryd.func11, Tryd.ntmps11
  go_wp2_with (at_builtin; generalize hlv : Value.slice (some ⟨w.heap.size, 0, none⟩) 0 0 = lv at *; refine wpList_app _ rfl _ _ 28 rfl w.heap.size 5 i5 _ 1 Tryd.underlying28 gi gz0 gz1 gz2 rfl _ (u8s []) rfl HO0.out _ _ _ (u8s l) rfl (HR.out.alloc _) hul m1.out m2.out (by simp) ?_)
  intro v4 w4 hO4 hg4 hown4
  obtain ⟨f, hf⟩ : ∃ f : Nat → Nat, f = fun i => padN N (N + i) := ⟨_, rfl⟩
  have HF := hid hf
  have HO4 := hid (show Own w4 w.heap.size 5 v4 (u8s (l ++ (List.range 0).map f)) from by simpa [u8s] using hO4)
  have HB4 := hid ((((Below.refl w.heap.size w).alloc (Nat.le_refl _) (.cells #[] 5))).grown hg4 (by simp) (fun k hk => (HO0.out.lt k hk).1))
  have HR9 := hid (show padW l many = l ++ (List.range (many - N)).map f from by rw [padW, hf, HN.out])
  clear hO4 hg4 hown4 HO0 hlv m1 m2 HR hf
  go_wp2_with fail
  go_loopg [5] (many - N) (fun gk ov wr => ∃ (i : Nat), i ≤ many - N ∧ gk = many - N - i ∧ Hid (Own wr w.heap.size 5 ov (u8s (l ++ (List.range i).map f))) ∧ Hid (Below w.heap.size w wr))
  case atStart => exact ⟨0, by omega, by omega, HO4, HB4⟩
  case round =>
    clear HO4 HB4
    obtain ⟨i, hi1, rfl, HO, HB⟩ := hrel
    obtain ⟨L, hL⟩ : ∃ L, L = N + i := ⟨_, rfl⟩
    obtain ⟨out, hout⟩ : ∃ out, out = l ++ (List.range i).map f := ⟨_, rfl⟩
    have hol : (u8s out).length = L := by rw [u8s_len, hout, hL, List.length_append, List.length_map, List.length_range, HN.out]
    obtain ⟨A9, c9, hv, _, _⟩ := HO.out.form
    rw [← hout] at HO hv
    rw [hol] at hv
    subst hv
    by_cases hlt : i < many - N
    case neg =>
      obtain rfl : i = many - N := by omega
      have hlt' : ¬ (L : Int) < (many : Int) := by omega
      have HOU := hid hout
      clear hout hL
      go_wp2_with fail
      go_ret
      rw [HR9.out, ← HOU.out]
      exact ⟨_, rfl, HO.out, HB.out⟩
    case pos =>
      have hlt' : (L : Int) < (many : Int) := by omega
      have hbs := HB.out.size
      have hfi : f i = padN N L := by rw [HF.out, hL]
      obtain ⟨v, hv⟩ : ∃ v, v = f i := ⟨_, rfl⟩
      have HSN := hid (show l ++ (List.range (i + 1)).map f = out ++ [v] from by rw [List.range_succ, List.map_append, hout, hv, List.append_assoc]; rfl)
      have m1 := hid (show (u8s out).length + 1 ≤ maxLen by rw [hol]; simp [maxLen]; omega)
      have m2 := hid (show ((u8s out).length + 1) * 1 ≤ 140737488355328 by rw [hol]; omega)
      have m3 := hid hbs
      rw [hfi, padN] at hv
      clear hol hout hfi
      by_cases h0 : i = 0
      case pos =>
        subst h0
        obtain rfl : L = N := by omega
        rw [if_pos rfl] at hv
        subst hv
        have hne : ¬ (L : Int) < (L : Int) := by omega
        clear hL
        go_wp2_with (at_builtin; generalize hlv : Value.slice A9 L c9 = lv at *; refine wpList_app _ rfl _ _ 28 rfl w.heap.size 5 i5 _ 1 Tryd.underlying28 gi gz0 gz1 gz2 rfl _ (u8s out) rfl (HO.out.alloc _) _ 1 1 [.int .u8 129] rfl (Rd.one' _ _ _ _ rfl) (by intro u hu; rw [List.mem_singleton.1 hu]; rfl) m1.out m2.out (Nat.le_trans m3.out (by simp)) ?_)
        intro v5 w5 hO5 hg5 hown5
        have HO5 := hid (show Own w5 w.heap.size 5 v5 (u8s (l ++ (List.range (0 + 1)).map f)) from by rw [HSN.out]; unfold u8s at hO5 ⊢; rw [List.map_append]; exact hO5)
        have HB5 := hid ((HB.out.alloc hbs (.cells #[.int .u8 129] 5)).grown hg5 (by simp; omega) (fun k hk => (HO.out.lt k hk).1))
        clear hO5 hg5 hown5 HO HB
        go_wp2_with fail
        go_roundg (many - L - (0 + 1))
        case measure => omega
        case rel => exact ⟨0 + 1, by omega, rfl, HO5, HB5⟩
      case neg =>
        rw [if_neg (by omega)] at hv
        have hgt : (N : Int) < (L : Int) := by omega
        obtain ⟨q, hq⟩ : ∃ q, q = 149 * (L + 1) % 253 := ⟨_, rfl⟩
        have hq' : 149 * ((L : Int) + 1) % 253 = (q : Nat) := by rw [hq, Int.natCast_emod, Int.natCast_mul, Int.natCast_add]; rfl
        rw [← hq] at hv
        have hql : q < 253 := by rw [hq]; exact Nat.mod_lt _ (by decide)
        clear hq hL
        by_cases h254 : 254 < q + 130
        case pos =>
          rw [if_pos h254] at hv
          have h1' : (254 : Int) < 129 + ((q : Int) + 1) := by omega
          have e1 : IntKind.u8.wrap (129 + ((q : Int) + 1) - 254) = (v : Nat) := by rw [u8wrap]; omega
          clear hv h254
          go_wp2_with (at_builtin; generalize hlv : Value.slice A9 L c9 = lv at *; refine wpList_app _ rfl _ _ 28 rfl w.heap.size 5 i5 _ 1 Tryd.underlying28 gi gz0 gz1 gz2 rfl _ (u8s out) rfl (HO.out.alloc _) _ 1 1 [.int .u8 (v : Nat)] rfl (Rd.one' _ _ _ _ rfl) (by intro u hu; rw [List.mem_singleton.1 hu]; rfl) m1.out m2.out (Nat.le_trans m3.out (by simp)) ?_)
          intro v5 w5 hO5 hg5 hown5
          have HO5 := hid (show Own w5 w.heap.size 5 v5 (u8s (l ++ (List.range (i + 1)).map f)) from by rw [HSN.out]; unfold u8s at hO5 ⊢; rw [List.map_append]; exact hO5)
          have HB5 := hid ((HB.out.alloc hbs (.cells #[.int .u8 (v : Nat)] 5)).grown hg5 (by simp; omega) (fun k hk => (HO.out.lt k hk).1))
          clear hO5 hg5 hown5 HO HB
          go_wp2_with fail
          go_roundg (many - N - (i + 1))
          case measure => omega
          case rel => exact ⟨i + 1, by omega, rfl, HO5, HB5⟩
        case neg =>
          rw [if_neg h254] at hv
          have h1' : ¬ (254 : Int) < 129 + ((q : Int) + 1) := by omega
          have e1 : IntKind.u8.wrap (129 + ((q : Int) + 1)) = (v : Nat) := by rw [u8wrap]; omega
          clear hv h254
          go_wp2_with (at_builtin; generalize hlv : Value.slice A9 L c9 = lv at *; refine wpList_app _ rfl _ _ 28 rfl w.heap.size 5 i5 _ 1 Tryd.underlying28 gi gz0 gz1 gz2 rfl _ (u8s out) rfl (HO.out.alloc _) _ 1 1 [.int .u8 (v : Nat)] rfl (Rd.one' _ _ _ _ rfl) (by intro u hu; rw [List.mem_singleton.1 hu]; rfl) m1.out m2.out (Nat.le_trans m3.out (by simp)) ?_)
          intro v5 w5 hO5 hg5 hown5
          have HO5 := hid (show Own w5 w.heap.size 5 v5 (u8s (l ++ (List.range (i + 1)).map f)) from by rw [HSN.out]; unfold u8s at hO5 ⊢; rw [List.map_append]; exact hO5)
          have HB5 := hid ((HB.out.alloc hbs (.cells #[.int .u8 (v : Nat)] 5)).grown hg5 (by simp; omega) (fun k hk => (HO.out.lt k hk).1))
          clear hO5 hg5 hown5 HO HB
          go_wp2_with fail
          go_roundg (many - N - (i + 1))
          case measure => omega
          case rel => exact ⟨i + 1, by omega, rfl, HO5, HB5⟩
end Go.Proofs.YtfmjkflihnfneaaDoor
