/- FnBINexts: the walk of the law. -/
import Derived.Test.YtmaghlckgfihcaaDoorNextW
namespace Go.Proofs.YtmaghlckgfihcaaDoor
open Go.RowKit
set_option linter.unusedVariables false

set_option maxRecDepth 20000 in
set_option maxHeartbeats 2000000 in
theorem biNext (A : Option Addr) (n c fr : Nat) (s : Bool) (l : List Bool) (w : World) (hA : Rd w A n (l.map Value.bool)) (hn : n ≤ 1000) (hfr : fr ≤ 65535) :
    Calls Tryd.prog 6 #[.slice A n c, .int .i64 fr, .bool s] w (NextOut (fun i => l.getD i false == s) n fr w) := by
  have HA := hid hA
  clear hA
  by_cases hge : n ≤ fr
  · have hge' : ¬ (fr : Int) < (n : Int) := by omega
    go_enter Tryd.func6, Tryd.ntmps6
    go_wp2_with fail
    go_loopw [7] (fun iv wr => iv = .int .i64 (fr : Nat) ∧ w = wr) (fun iv _ => 0)
    case atStart => exact ⟨rfl, rfl⟩
    case round =>
      obtain ⟨rfl, rfl⟩ := hrel
      go_wp2_with fail
      go_ret
      exact ⟨n, rfl, .inl ⟨hge, rfl⟩, rfl⟩
  go_enter Tryd.func6, Tryd.ntmps6
  go_wp2_with fail
  go_loopw [7] (fun iv wr => ∃ i : Nat, fr ≤ i ∧ i ≤ n ∧ iv = .int .i64 (i : Nat) ∧ Hid (∀ j, fr ≤ j → j < i → (l.getD j false == s) = false) ∧ w = wr) (fun iv _ => n - (intOf iv).toNat)
  case atStart => exact ⟨fr, Nat.le_refl _, by omega, rfl, hid (fun j a b => by omega), rfl⟩
  case round =>
    obtain ⟨i, hi, hin, rfl, HL, rfl⟩ := hrel
    by_cases hlt : i < n
    · have hlt' : (i : Int) < (n : Int) := by omega
      obtain ⟨b1, o1, rfl, _, hc1⟩ := rd_bool HA.out i hlt
      have HV := hid (show ∃ v, v = l.getD i false from ⟨_, rfl⟩)
      obtain ⟨v, hv⟩ := HV.out
      rw [← hv] at hc1
      have HV2 := hid hv
      clear hv HV
      cases hb : (v == s) with
      | true =>
        go_wp2_with fail
        go_ret
        exact ⟨i, rfl, .inr ⟨by omega, hi, by omega, fun j a b => HL.out j a b, fun _ => by show (l.getD i false == s) = true; rw [← HV2.out]; exact hb⟩, rfl⟩
      | false =>
        go_wp2_with fail
        go_roundw
        case rel =>
          refine ⟨i + 1, by omega, by omega, by go_num, hid (fun j a b => ?_), by first | rfl | trivial⟩
          by_cases hj : j = i
          · rw [hj, ← HV2.out]; exact hb
          · exact HL.out j a (by omega)
        case measure => simp [intOf]; omega
    · obtain rfl : i = n := by omega
      have hlt' : ¬ (i : Int) < (i : Int) := by omega
      go_wp2_with fail
      go_ret
      exact ⟨i, rfl, .inr ⟨by omega, hi, Nat.le_refl _, fun j a b => HL.out j a b, fun h => by omega⟩, rfl⟩

/-- A number in the place where the first is, the world grown. -/
def NextBack (C : Nat → Bool) (n fr : Nat) (w : World) (e : Ending) (w' : World) : Prop := ∃ r : Nat, e = .returned (.int .i64 r) ∧ IsNext C n fr r ∧ Below w.heap.size w w'

set_option maxRecDepth 20000 in
set_option maxHeartbeats 2000000 in
theorem arrayNext (A : Option Addr) (n c fr : Nat) (s : Bool) (l : List Bool) (w : World) (hA : Rd w A n (l.map Value.bool)) (hn : n ≤ 200) (hfr : fr ≤ 65535) (hT : Tab w) (h0 : 0 < w.heap.size) :
    Calls Tryd.prog 5 #[.slice A n c, .int .i64 fr, .bool s] w (NextBack (fun i => l.getD i false == s) n fr w) := by
  have ao := arrOf A c n ((n + 31) / 32) l w hA hn rfl
  have hnw : (n + 31) / 32 ≤ 7 := by omega
  generalize (n + 31) / 32 = nw at *
  have HT := hid hT
  clear hT hA
  cases s with
  | true =>
    go_enter Tryd.func5, Tryd.ntmps5
    go_wp2_with fail
    refine ao.mono ?_
    rintro e w1 ⟨q, g, ws, rfl, hg, hq, hM, hb1⟩
    have nx := nextSet q g n nw fr ws _ w1 hM (HT.out.below hb1 h0) hfr hnw
    have HB := hid hb1
    clear ao hM hb1
    go_wp2_with fail
    refine nx.mono ?_
    rintro e w2 ⟨r, rfl, hN, rfl⟩
    have HN := hid hN
    clear nx hN
    go_wp2_with fail
    go_ret
    refine ⟨r, rfl, ?_, HB.out⟩
    have e : (fun i => l.getD i false == true) = fun i => l.getD i false := by funext i; cases l.getD i false <;> rfl
    rw [e]; exact HN.out
  | false =>
    go_enter Tryd.func5, Tryd.ntmps5
    go_wp2_with fail
    refine ao.mono ?_
    rintro e w1 ⟨q, g, ws, rfl, hg, hq, hM, hb1⟩
    have nx := nextUnset q g n nw fr ws _ w1 hM (HT.out.below hb1 h0) hfr hnw
    have HB := hid hb1
    clear ao hM hb1
    go_wp2_with fail
    refine nx.mono ?_
    rintro e w2 ⟨r, rfl, hN, rfl⟩
    have HN := hid hN
    clear nx hN
    go_wp2_with fail
    go_ret
    refine ⟨r, rfl, ?_, HB.out⟩
    have e : (fun i => l.getD i false == false) = fun i => !l.getD i false := by funext i; cases l.getD i false <;> rfl
    rw [e]; exact HN.out

/-- No bits. -/
theorem biBits0 (A : Option Addr) (cap : Nat) (w : World) :
    Calls Tryd.prog 4 #[.slice A 0 cap, .int .i64 200] w (BitsNew [] 0 w) := by
  obtain ⟨i4, hi4, hb0, hb1, hb2⟩ := info_of infoBool
  have HO := hid (show Own (w.alloc (.cells #[] 4)) w.heap.size 4 (.slice (some ⟨w.heap.size, 0, none⟩) 0 0) [] from World.ownsRow_lit w #[] 0 (Nat.le_refl _) (by simp [maxLen]) rfl)
  rcases A with _ | ⟨b, o, sp⟩
  all_goals (
  go_enter Tryd.func4, Tryd.ntmps4
  go_wp2_with (at_builtin; (refine wpList_app _ rfl _ _ 22 rfl w.heap.size 4 i4 _ 1 Tryd.underlying22 hi4 hb0 hb1 hb2 rfl (.slice (some ⟨w.heap.size, 0, none⟩) 0 0) [] (by rfl) HO.out _ 0 cap [] (by rfl) Rd.nil (by intro u hu; cases hu) (by simp [maxLen]) (by simp) (by simp) ?_))
  intro v1 w2 hO hg _
  have HB := hid (show Below w.heap.size w w2 from ((Below.refl w.heap.size w).alloc (Nat.le_refl _) (.cells #[] 4)).grown hg (by simp) (fun j hj => by simp [Value.ownBlock] at hj; omega))
  obtain ⟨A9, c9, hv9, hR9, _⟩ := hO.form
  have HR := hid hR9
  subst hv9
  clear hO hg hR9
  go_wp2_with fail
  go_ret
  exact ⟨A9, c9, rfl, HR.out, HB.out⟩)
set_option maxRecDepth 20000 in
set_option maxHeartbeats 2000000 in
theorem biBits2 (A : Option Addr) (len cap n : Nat) (zs : List Bool) (w : World) (hZ : Rd w A len (zs.map Value.bool)) (hlc : len ≤ cap) (hl1 : 1 ≤ len) (hnm : n = min len 200) (hlen : len ≤ 2147483647) :
    Calls Tryd.prog 4 #[.slice A len cap, .int .i64 200] w (BitsNew (zs.take n) n w) := by
  obtain ⟨i4, hi4, hb0, hb1, hb2⟩ := info_of infoBool
  have hmin : (if (200 : Int) < (len : Int) then (200 : Int) else (len : Int)) = (n : Int) := by split <;> omega
  have hn1 : 1 ≤ n := by omega
  have hn : n ≤ len := by omega
  have hn2 : n ≤ 200 := by omega
  have hnc : (n : Int) ≤ (cap : Int) := by omega
  have hT := hZ.take n hn
  rw [← List.map_take] at hT
  have hT2 := hT.2 (by omega)
  obtain ⟨b, o, rfl, _, _⟩ := hT2
  have HT := hid hT
  have hzl : (List.map Value.bool (List.take n zs)).length = n := hT.1
  have HO := hid (show Own (w.alloc (.cells #[] 4)) w.heap.size 4 (.slice (some ⟨w.heap.size, 0, none⟩) 0 0) [] from World.ownsRow_lit w #[] 0 (Nat.le_refl _) (by simp [maxLen]) rfl)
  clear hZ hT
  rcases Nat.lt_or_ge 200 len with hnl | hnl
  rotate_left
  obtain rfl : n = len := by omega
  clear hnm
  rotate_left
  obtain rfl : n = 200 := by omega
  clear hnm
  all_goals (
  go_enter Tryd.func4, Tryd.ntmps4
  go_wp2_with (at_builtin; (refine wpList_app _ rfl _ _ 22 rfl w.heap.size 4 i4 _ 1 Tryd.underlying22 hi4 hb0 hb1 hb2 rfl (.slice (some ⟨w.heap.size, 0, none⟩) 0 0) [] (by rfl) HO.out (some ⟨b, o, none⟩) _ cap _ (by rfl) (HT.out.alloc _) (by intro u hu; obtain ⟨b, _, rfl⟩ := List.mem_map.1 hu; rfl) (by simp [maxLen] <;> omega) (by simp <;> omega) (by simp) ?_))
  intro v1 w2 hO hg _
  have HB := hid (show Below w.heap.size w w2 from ((Below.refl w.heap.size w).alloc (Nat.le_refl _) (.cells #[] 4)).grown hg (by simp) (fun j hj => by simp [Value.ownBlock] at hj; omega))
  obtain ⟨A9, c9, hv9, hR9, _⟩ := hO.form
  rw [← List.map_take] at hv9 hR9
  rw [hzl] at hv9 hR9
  have HR := hid hR9
  subst hv9
  clear hO hg hR9
  go_wp2_with fail
  go_ret
  exact ⟨A9, c9, rfl, HR.out, HB.out⟩)


set_option maxRecDepth 20000 in
set_option maxHeartbeats 4000000 in
theorem FnBINexts_walk (w : World) (A : Option Addr) (len cap : Nat) (zs : List Bool) (hS : SlIn w A len cap (zs.map Value.bool)) (z : Int) (hz : (Lit.int .u16 z).wf = true) (s : Bool) (hT : Tab w) :
    Calls Tryd.prog 3 #[.slice A len cap, .int .u16 z, .bool s] w fun e w' => e = .returned (.bool true) ∧ Below w.heap.size w w' := by
  have h16 := wf_u16 hz
  obtain ⟨fr, rfl⟩ : ∃ fr : Nat, z = fr := ⟨z.toNat, by omega⟩
  have hfr : fr ≤ 65535 := by omega
  have hR := hS.rd
  obtain ⟨_, hlc, hcm, _⟩ := hS
  unfold maxLen at hcm
  have h0 : 0 < w.heap.size := by
    rcases Nat.eq_zero_or_pos w.heap.size with h | h
    · have := hT 0 (by omega)
      unfold World.cell? at this
      rw [Array.getElem?_eq_none (by omega)] at this
      cases this
    · exact h
  by_cases hbig : (2147483647 : Int) < len
  · clear hT
    go_enter Tryd.func3, Tryd.ntmps3
    go_wp2_with fail
    go_ret
    exact ⟨rfl, Below.refl _ _⟩
  have bb : ∃ n, n ≤ 200 ∧ (zs.take n).length = n ∧ Calls Tryd.prog 4 #[.slice A len cap, .int .i64 200] w (BitsNew (zs.take n) n w) := by
    by_cases hl : len = 0
    · subst hl
      exact ⟨0, by omega, rfl, by rw [List.take_zero]; exact biBits0 A cap w⟩
    · have hle : min len 200 ≤ len := by omega
      refine ⟨min len 200, by omega, ?_, biBits2 A len cap (min len 200) zs w hR hlc (by omega) rfl (by omega)⟩
      have := (hR.take _ hle).1
      simpa using this
  obtain ⟨n, hn, hzn, bb⟩ := bb
  generalize zs.take n = X at *
  have BB := hid bb
  have HT := hid hT
  clear bb hT hR hzn
  go_enter Tryd.func3, Tryd.ntmps3
  go_wp2_with fail
  refine BB.out.mono ?_
  rintro e w1 ⟨A1, c1, rfl, hX, hb1⟩
  have HX := hid hX
  have HB := hid hb1
  have an := arrayNext A1 n c1 fr s X w1 hX hn hfr (HT.out.below hb1 h0) (Nat.lt_of_lt_of_le h0 hb1.size)
  clear hX hb1
  go_wp2_with fail
  refine an.mono ?_
  rintro e w2 ⟨r1, rfl, hN, hb2⟩
  have HN := hid hN
  have HB2 := hid (HB.out.trans (hb2.mono HB.out.size))
  have bn := biNext A1 n c1 fr s X w2 (HX.out.below hb2) (by omega) hfr
  clear an hN hb2
  go_wp2_with fail
  refine bn.mono ?_
  rintro e w3 ⟨r2, rfl, hN2, rfl⟩
  obtain rfl := HN.out.unique hN2 (fun _ _ => rfl)
  clear bn hN2
  go_wp2_with fail
  go_ret
  exact ⟨rfl, HB2.out⟩
end Go.Proofs.YtmaghlckgfihcaaDoor
