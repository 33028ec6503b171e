/- FnBITwice: the walk of the law. -/
import Derived.Test.YtmaghlckgfihcaaRunX
namespace Go.Proofs.Ytmaghlckgfihcaa
open Go.RowKit
set_option linter.unusedVariables false

/-- A value is handed back; the world has drawn, no more. -/
def DrewIt (v : Value) (w : World) (e : Ending) (w' : World) : Prop := e = .returned v ∧ ∃ n, w.drewN n = w'

set_option maxRecDepth 20000 in
set_option maxHeartbeats 2000000 in
theorem sameBits (A B : Option Addr) (n c d : Nat) (l : List Bool) (w : World) (hA : Rd w A n (l.map Value.bool)) (hB : Rd w B n (l.map Value.bool)) (hn : n ≤ 1000) :
    Calls Try.prog 17 #[.slice A n c, .slice B n d] w (DrewIt (.bool true) w) := by
  have HA := hid hA
  have HB := hid hB
  clear hA hB
  go_enter Try.func17, Try.ntmps17
  go_wp2_with fail
  go_loopw [5] (fun iv wr => ∃ i m : Nat, i ≤ n ∧ iv = .int .i64 (i : Nat) ∧ w.drewN m = wr) (fun iv _ => n - (intOf iv).toNat)
  case atStart => exact ⟨0, 0, by omega, rfl, rfl⟩
  case round =>
    obtain ⟨i, m, hi, rfl, rfl⟩ := hrel
    by_cases hlt : i < n
    · have hlt' : (i : Int) < (n : Int) := by omega
      obtain ⟨b1, o1, rfl, _, hc1⟩ := rd_bool HA.out i hlt
      obtain ⟨b2, o2, rfl, _, hc2⟩ := rd_bool HB.out i hlt
      generalize l.getD i false = v at *
      go_wp2_with fail
      go_quiet (fail)
      go_wp2_with fail
      go_roundw
      case rel => exact ⟨i + 1, _, by omega, by go_num, by first | rfl | exact World.drewN_drewN _ _ _ | trivial⟩
      case measure => simp [intOf]; omega
    · obtain rfl : i = n := by omega
      have hlt' : ¬ (i : Int) < (i : Int) := by omega
      go_wp2_with fail
      go_ret
      exact ⟨rfl, m, rfl⟩

theorem infoB4 : (Try.prog.info? 4).map (fun i => (i.zero, i.size, i.bytes)) = some (some (.bool false), 1, 1) := infoBool
/-- Bits in new memory. -/
def BitsNew (l : List Bool) (n : Nat) (w : World) (e : Ending) (w' : World) : Prop :=
  ∃ A c, e = .returned (.slice A n c) ∧ Rd w' A n (l.map Value.bool) ∧ Below w.heap.size w w'
set_option maxRecDepth 20000 in
set_option maxHeartbeats 2000000 in
theorem biBits (A : Option Addr) (len cap n : Nat) (zs : List Bool) (w : World) (hZ : Rd w A len (zs.map Value.bool)) (hlc : len ≤ cap) (hn1 : 1 ≤ n) (hn : n ≤ len) (hn2 : n ≤ 200) (hlen : len ≤ 2147483647) :
    Calls Try.prog 15 #[.slice A len cap, .int .i64 n] w (BitsNew (zs.take n) n w) := by
  obtain ⟨i4, hi4, hb0, hb1, hb2⟩ := info_of infoBool
  have hmin : (if (n : Int) < (len : Int) then (n : Int) else (len : Int)) = (n : Int) := by split <;> omega
  have hnc : (n : Int) ≤ (cap : Int) := by omega
  have hT := hZ.take n hn
  rw [← List.map_take] at hT
  have hT2 := hT.2 (by omega)
  obtain ⟨b, o, rfl, _, _⟩ := hT2
  have HT := hid hT
  have hzl : (List.map Value.bool (List.take n zs)).length = n := hT.1
  have HO := hid (show Own (w.alloc (.cells #[] 4)) w.heap.size 4 (.slice (some ⟨w.heap.size, 0, none⟩) 0 0) [] from World.ownsRow_lit w #[] 0 (Nat.le_refl _) (by simp [maxLen]) rfl)
  clear hZ hT
  rcases Nat.lt_or_ge n len with hnl | hnl
  rotate_left
  obtain rfl : n = len := by omega
  all_goals (
  go_enter Try.func15, Try.ntmps15
  go_wp2_with (at_builtin; (refine wpList_app _ rfl _ _ 22 rfl w.heap.size 4 i4 _ 1 Try.underlying22 hi4 hb0 hb1 hb2 rfl (.slice (some ⟨w.heap.size, 0, none⟩) 0 0) [] (by rfl) HO.out (some ⟨b, o, none⟩) n cap ((zs.take n).map Value.bool) (by rfl) (HT.out.alloc _) (by intro u hu; obtain ⟨b, _, rfl⟩ := List.mem_map.1 hu; rfl) (by simp [maxLen]; omega) (by simp; omega) (by simp) ?_))
  intro v1 w2 hO hg _
  have HB := hid (show Below w.heap.size w w2 from ((Below.refl w.heap.size w).alloc (Nat.le_refl _) (.cells #[] 4)).grown hg (by simp) (fun j hj => by simp [Value.ownBlock] at hj; omega))
  obtain ⟨A9, c9, hv9, hR9, _⟩ := hO.form
  rw [← List.map_take] at hv9 hR9
  rw [hzl] at hv9 hR9
  have HR := hid hR9
  subst hv9
  clear hO hg hR9
  go_wp2_with fail
  go_ret
  exact ⟨A9, c9, rfl, HR.out, HB.out⟩)

theorem firstN_getD (B : Nat → Bool) (n i : Nat) (hi : i < n) : (firstN B n).getD i false = B i := by
  simp [firstN, List.getD, List.getElem?_range hi]
theorem firstN_take (zs : List Bool) (n : Nat) (h : (zs.take n).length = n) : firstN (fun i => (zs.take n).getD i false) n = zs.take n := by
  apply List.ext_getElem
  · rw [firstN_len, h]
  · intro i h1 h2
    simp [firstN, List.getD, List.getElem?_eq_getElem h2]
theorem firstN_self (X : List Bool) (n : Nat) (h : X.length = n) : firstN (fun i => X.getD i false) n = X := by
  apply List.ext_getElem
  · rw [firstN_len, h]
  · intro i h1 h2
    simp [firstN, List.getD, List.getElem?_eq_getElem h2]
/-- Turned round twice. -/
theorem turn_twice (X : List Bool) (n : Nat) (h : X.length = n) : firstN (turnB (fun i => (firstN (turnB (fun i => X.getD i false) n) n).getD i false) n) n = X := by
  apply List.ext_getElem
  · rw [firstN_len, h]
  · intro i h1 h2
    have hi : i < n := by rw [firstN_len] at h1; exact h1
    have e1 : (firstN (turnB (fun i => (firstN (turnB (fun i => X.getD i false) n) n).getD i false) n) n)[i] = turnB (fun i => (firstN (turnB (fun i => X.getD i false) n) n).getD i false) n i := by simp [firstN]
    rw [e1]
    unfold turnB
    rw [if_pos hi]
    simp only
    rw [firstN_getD _ n (n - 1 - i) (by omega), if_pos (by omega), show n - 1 - (n - 1 - i) = i from by omega, List.getD, List.getElem?_eq_getElem h2]
    rfl

set_option maxRecDepth 20000 in
set_option maxHeartbeats 8000000 in
theorem FnBITwice_walk (w : World) (A : Option Addr) (l1 c1 : Nat) (zs : List Bool) (hS : SlIn w A l1 c1 (zs.map Value.bool)) (A2 : Option Addr) (l2 c2 : Nat) (ys : List Bool) (hS2 : SlIn w A2 l2 c2 (ys.map Value.bool)) :
    Calls Try.prog 4 #[.slice A l1 c1, .slice A2 l2 c2] w fun e w' => e = .returned (.bool true) ∧ Below w.heap.size w w' := by
  have hR1 := hS.rd
  have hR2 := hS2.rd
  obtain ⟨_, hlc1, hcm1, _⟩ := hS
  obtain ⟨_, hlc2, hcm2, _⟩ := hS2
  unfold maxLen at hcm1 hcm2
  by_cases hbig1 : (2147483647 : Int) < l1
  · go_enter Try.func4, Try.ntmps4
    go_wp2_with fail
    go_ret
    exact ⟨rfl, Below.refl _ _⟩
  by_cases hbig2 : (2147483647 : Int) < l2
  · go_enter Try.func4, Try.ntmps4
    go_wp2_with fail
    go_ret
    exact ⟨rfl, Below.refl _ _⟩
  by_cases hz : l1 = 0 ∨ l2 = 0
  · have hz1 : ¬ (200 : Int) < (l1 : Int) ∨ ¬ (200 : Int) < (l2 : Int) := by omega
    by_cases hlt : l2 < l1
    · obtain rfl : l2 = 0 := by omega
      go_enter Try.func4, Try.ntmps4
      go_wp2_with fail
      go_ret
      exact ⟨rfl, Below.refl _ _⟩
    · obtain rfl : l1 = 0 := by omega
      have hlt2 : ¬ (l2 : Int) < 0 := by omega
      go_enter Try.func4, Try.ntmps4
      go_wp2_with fail
      go_ret
      exact ⟨rfl, Below.refl _ _⟩
  obtain ⟨n, hn⟩ : ∃ n, n = min (min l1 l2) 200 := ⟨_, rfl⟩
  have hn0 : 1 ≤ n := by omega
  have hn1 : n ≤ l1 := by omega
  have hn2 : n ≤ l2 := by omega
  have hn3 : n ≤ 200 := by omega
  obtain ⟨z, hz2⟩ : ∃ z, z = (n : Int) := ⟨_, rfl⟩
  have b1 := fun W h => biBits A l1 c1 n zs W h hlc1 hn0 hn1 hn3 (by omega)
  have b2 := fun W h => biBits A2 l2 c2 n ys W h hlc2 hn0 hn2 hn3 (by omega)
  rw [← hz2] at b1 b2
  have hX : (zs.take n).length = n := by have := (hR1.take n hn1).1; simpa using this
  have hY : (ys.take n).length = n := by have := (hR2.take n hn2).1; simpa using this
  have HR1 := hid hR1
  have HR2 := hid hR2
  have HX := hid hX
  have HY := hid hY
  have HB1 := hid b1
  have HB2 := hid b2
  have HZ : Hid (z = (n : Int)) := hid hz2
  clear hR1 hR2 hX hY b1 b2
  have hcase : (l2 < l1 ∧ 200 < l2 ∧ z = 200) ∨ (l2 < l1 ∧ ¬ 200 < l2 ∧ z = l2) ∨ (¬ l2 < l1 ∧ 200 < l1 ∧ z = 200) ∨ (¬ l2 < l1 ∧ ¬ 200 < l1 ∧ z = l1) := by omega
  clear hn hz2
  have hz3 : ¬ l1 = 0 := by omega
  have hz4 : ¬ l2 = 0 := by omega
  clear hz
  generalize zs.take n = X at *
  generalize ys.take n = Y at *
  have key := turn_twice X n HX.out
  have r1 := fun (a1 : Option Addr) (k1 : Nat) (W : World) (h : Rd W a1 n (X.map Value.bool)) => runRev a1 k1 n W.heap.size 1 X (W.alloc (.cells #[.int .i64 9, .int .i64 0, .int .i64 0, .slice none 0 0] 33)) (h.alloc _) hn0 hn3 (Arr.of_new _ _ _)
  generalize firstN (turnB (fun i => X.getD i false) n) n = X2 at *
  have r2 := fun (a1 : Option Addr) (k1 : Nat) (W : World) (h : Rd W a1 n (X2.map Value.bool)) => runRev a1 k1 n W.heap.size 1 X2 (W.alloc (.cells #[.int .i64 9, .int .i64 0, .int .i64 0, .slice none 0 0] 33)) (h.alloc _) hn0 hn3 (Arr.of_new _ _ _)
  rw [key] at r2
  have r3 := fun (a1 : Option Addr) (k1 : Nat) (a2 : Option Addr) (k2 : Nat) (W : World) (h : Rd W a1 n (X.map Value.bool)) (h2 : Rd W a2 n (Y.map Value.bool)) => runXor a1 a2 k1 k2 n W.heap.size 2 X Y (W.alloc (.cells #[.int .i64 8, .int .i64 0, .int .i64 0, .slice a2 n k2, .int .i64 8, .int .i64 0, .int .i64 0, .slice a2 n k2] 33)) (h.alloc _) (h2.alloc _) hn0 hn3 (Arr.of_new _ _ _)
  rw [firstN_self X n HX.out] at r3
  have r4 := fun (c d : Nat) (A B : Option Addr) (W : World) (h1 : Rd W A n (X.map Value.bool)) (h2 : Rd W B n (X.map Value.bool)) => sameBits A B n c d X W h1 h2 (by omega)
  have r5 := fun (c d : Nat) (A B : Option Addr) (W : World) (h1 : Rd W A 2 [.bool true, .bool true]) (h2 : Rd W B 2 [.bool true, .bool true]) => sameBits A B 2 c d [true, true] W h1 h2 (by omega)
  have F1 := hid r1
  have F2 := hid r2
  have F3 := hid r3
  have F4 := hid r4
  have F5 := hid r5
  clear r1 r2 r3 r4 r5 key
  rcases hcase with ⟨hlt, hlt2, rfl⟩ | ⟨hlt, hlt2, rfl⟩ | ⟨hlt, hlt2, rfl⟩ | ⟨hlt, hlt2, rfl⟩
  all_goals (
  go_enter Try.func4, Try.ntmps4
  go_wp2_with fail
  refine (HB1.out w HR1.out).mono ?_
  rintro e w1 ⟨a1, k1, rfl, hX1, hb1⟩
  have HRX := hid hX1
  have HR2a := hid (HR2.out.below hb1)
  have HBa := hid hb1
  clear hX1 hb1
  go_wp2_with fail
  refine (HB2.out w1 HR2a.out).mono ?_
  rintro e w2 ⟨a2, k2, rfl, hY1, hb2⟩
  have HRX2 := hid (HRX.out.below hb2)
  have HRY2 := hid hY1
  have HBb := hid (HBa.out.trans (hb2.mono HBa.out.size))
  clear hY1 hb2
  have r1 := F1.out a1 k1 w2 HRX2.out
  have HBc := hid (HBb.out.alloc HBb.out.size (.cells #[.int .i64 9, .int .i64 0, .int .i64 0, .slice none 0 0] 33))
  have HRX3 := hid (HRX2.out.alloc (.cells #[.int .i64 9, .int .i64 0, .int .i64 0, .slice none 0 0] 33))
  have HRY3 := hid (HRY2.out.alloc (.cells #[.int .i64 9, .int .i64 0, .int .i64 0, .slice none 0 0] 33))
  go_wp2_with fail
  refine r1.mono ?_
  rintro e w4 ⟨g1, t1, u1, rfl, hg1, hl1, hx1, hr1, hb4⟩
  have HX4 := hid hx1
  have HRX4 := hid (HRX3.out.below hb4)
  have HRY4 := hid (HRY3.out.below hb4)
  have HBd := hid (HBc.out.trans (hb4.mono HBc.out.size))
  clear r1 hx1 hr1 hb4 hg1 hl1
  have r2 := F2.out (some ⟨g1, 0, none⟩) n w4 HX4.out
  have HBe := hid (HBd.out.alloc HBd.out.size (.cells #[.int .i64 9, .int .i64 0, .int .i64 0, .slice none 0 0] 33))
  have HRX5 := hid (HRX4.out.alloc (.cells #[.int .i64 9, .int .i64 0, .int .i64 0, .slice none 0 0] 33))
  have HRY5 := hid (HRY4.out.alloc (.cells #[.int .i64 9, .int .i64 0, .int .i64 0, .slice none 0 0] 33))
  go_wp2_with fail
  refine r2.mono ?_
  rintro e w6 ⟨g2, t2, u2, rfl, hg2, hl2, hx2, hr2, hb6⟩
  have HT6 := hid hx2
  have HRX6 := hid (HRX5.out.below hb6)
  have HRY6 := hid (HRY5.out.below hb6)
  have HBf := hid (HBe.out.trans (hb6.mono HBe.out.size))
  clear r2 hx2 hr2 hb6 hg2 hl2
  have r3 := F3.out a1 k1 a2 k2 w6 HRX6.out HRY6.out
  have HBg := hid (HBf.out.alloc HBf.out.size (.cells #[.int .i64 8, .int .i64 0, .int .i64 0, .slice a2 n k2, .int .i64 8, .int .i64 0, .int .i64 0, .slice a2 n k2] 33))
  have HRX7 := hid (HRX6.out.alloc (.cells #[.int .i64 8, .int .i64 0, .int .i64 0, .slice a2 n k2, .int .i64 8, .int .i64 0, .int .i64 0, .slice a2 n k2] 33))
  have HT7 := hid (HT6.out.alloc (.cells #[.int .i64 8, .int .i64 0, .int .i64 0, .slice a2 n k2, .int .i64 8, .int .i64 0, .int .i64 0, .slice a2 n k2] 33))
  go_wp2_with fail
  refine r3.mono ?_
  rintro e w8 ⟨g3, t3, u3, rfl, hg3, hl3, hx3, hr3, hb8⟩
  have HS8 := hid hx3
  have HK8 := hid hr3
  have HRX8 := hid (HRX7.out.below hb8)
  have HT8 := hid (HT7.out.below hb8)
  have HBh := hid (HBg.out.trans (hb8.mono HBg.out.size))
  clear r3 hx3 hr3 hb8 hg3 hl3
  have hnz := HZ.out
  go_wp2_with fail
  refine (F4.out n k1 (some ⟨g2, 0, none⟩) a1 w8 HT8.out HRX8.out).mono ?_
  rintro e w9 ⟨rfl, m1, rfl⟩
  go_wp2_with fail
  refine (F4.out n k1 (some ⟨g3, 0, none⟩) a1 (w8.drewN m1) (HS8.out.drewN m1) (HRX8.out.drewN m1)).mono ?_
  rintro e w10 ⟨rfl, m2, rfl⟩
  go_wp2_with fail
  have hL : Rd ((w8.drewN (m1 + m2)).alloc (.cells #[.bool true, .bool true] 4)) (some ⟨w8.heap.size, 0, none⟩) 2 [.bool true, .bool true] := Rd.of_arr (Arr.of_new (w8.drewN (m1 + m2)) 4 #[.bool true, .bool true])
  refine (F5.out u3 2 t3 (some ⟨w8.heap.size, 0, none⟩) _ ((HK8.out.drewN (m1 + m2)).alloc (.cells #[.bool true, .bool true] 4)) hL).mono ?_
  rintro e w11 ⟨rfl, m3, rfl⟩
  have HBi := hid (below_drewN ((below_drewN HBh.out (m1 + m2)).alloc HBh.out.size (.cells #[.bool true, .bool true] 4)) m3)
  clear hL
  go_wp2_with fail
  go_ret
  exact ⟨rfl, HBi.out⟩)
end Go.Proofs.Ytmaghlckgfihcaa
