/- impl.BlackRow; the small functions of the law FnPXRows. -/
import Derived.Test.YtkonepeejhgloaaRowB
namespace Go.Proofs.Ytkonepeejhgloaa
open Go.RowKit
set_option linter.unusedVariables false
set_option linter.unusedSimpArgs false

theorem metBlackRow (a : Addr) (w : World) : (method 244 68 (.pointer (some a)) "GetBlackRow").run Try.prog w = .ok (57, .pointer (some a)) w := by kernel_rfl

/-- A row of bits, or none. -/
def BlackOut (px : Nat → Nat) (wd : Nat) (w : World) (e : Ending) (w' : World) : Prop :=
  Below w.heap.size w w' ∧ ((bound (cntF px wd) = none ∧ e = .returned (.tuple #[.slice none 0 0, .bool false])) ∨
    ∃ bd G, bound (cntF px wd) = some bd ∧ e = .returned (.tuple #[.slice (some ⟨G, 0, none⟩) wd wd, .bool true]) ∧ Rd w' (some ⟨G, 0, none⟩) wd ((firstN (darkB px wd bd) wd).map Value.bool))

set_option maxRecDepth 20000 in
set_option maxHeartbeats 4000000 in
theorem blackRow (wd h n c y : Nat) (A : Option Addr) (px : Nat → Nat) (w : World) (hR : Rd w A n (bytesOf n px)) (hw1 : 1 ≤ wd) (hw2 : wd ≤ 60) (hh1 : 1 ≤ h) (hh2 : h ≤ 60) (hn : n = wd * h) (hy : y < h) (hpx : ∀ k, px k < 256) :
    Calls Try.prog 10 #[.int .i64 wd, .int .i64 h, .slice A n c, .int .i64 y] w (BlackOut (rowPx px wd y) wd w) := by
  have so := source wd h n c A px false w hR hw1 hw2 hh1 hh2 hn hpx
  simp only [Bool.false_eq_true, if_false] at so
  have HPX := hid hpx
  have HN := hid hn
  have m1 := fun a => metBlackRow a
  clear hR hn hpx
  go_enter Try.func10, Try.ntmps10
  go_wp2_with fail
  refine so.mono ?_
  rintro e w1 ⟨q, g, cap, rfl, hO, hP, hcap, hb1⟩
  have ng := newGlob q w1
  have hgw := hO.lt
  have hqw := hP.lt
  have HO := hid hO
  have HP := hid hP
  have HB1 := hid hb1
  clear so hO hP hb1
  go_wp2_with fail
  refine ng.mono ?_
  rintro e w2 ⟨r, G, LA, rfl, hr, hG, hGr, hGl, hA, hb2⟩
  have hws := HB1.out.size
  have HO2 := hid (HO.out.below hb2 hgw)
  have gb := getBlackRow w.heap.size r q g wd h n cap y G LA px w2 (HP.out.below hb2 hqw) (fun k hk => HO2.out.cell k hk) (Nat.lt_of_lt_of_le hgw hb2.size) hGl hA hGr (by omega) (by omega) (by omega) (by omega) (by omega) (by omega) HN.out hy hw1 hw2 hh2 hcap HPX.out
  have HB2 := hid (HB1.out.trans (hb2.mono HB1.out.size))
  have m2 := m1 ⟨r, 0, none⟩
  clear ng hGl hA hb2 HO HP m1
  go_wp2_with fail
  refine gb.mono ?_
  rintro e w3 ⟨hb3, h3⟩
  have HB3 := hid (HB2.out.trans hb3)
  clear gb hb3
  rcases h3 with ⟨hn0, u, rfl⟩ | ⟨bd, a, ag, nw, ws, hv0, rfl, hBa, hBag, hal, hagl, hnw, hM⟩
  · have HN0 := hid hn0
    clear hn0
    go_wp2_with fail
    go_ret2
    exact ⟨HB3.out, .inl ⟨HN0.out, rfl⟩⟩
  · have HV0 := hid hv0
    have bo := boolsOf a ag wd nw ws _ w3 hM hal hagl (by omega) hnw
    clear hv0 hM
    go_wp2_with fail
    refine bo.mono ?_
    rintro e w4 ⟨G4, rfl, hG4, hl4, hR4, hb4⟩
    have HR4 := hid hR4
    have HB4 := hid (HB3.out.trans (hb4.mono HB3.out.size))
    clear bo hR4 hb4 hl4
    go_wp2_with fail
    go_ret2
    exact ⟨HB4.out, .inr ⟨bd, G4, HV0.out, rfl, HR4.out⟩⟩

/-- Two lists of bits that read the same. -/
def DrewIt (v : Value) (w : World) (e : Ending) (w' : World) : Prop := e = .returned v ∧ ∃ n, w.drewN n = w'
set_option maxRecDepth 20000 in
set_option maxHeartbeats 2000000 in
theorem sameBits (A B : Option Addr) (n c d : Nat) (l : List Bool) (w : World) (hA : Rd w A n (l.map Value.bool)) (hB : Rd w B n (l.map Value.bool)) (hn : n ≤ 1000) :
    Calls Try.prog 15 #[.slice A n c, .slice B n d] w (DrewIt (.bool true) w) := by
  have HA := hid hA
  have HB := hid hB
  clear hA hB
  go_enter Try.func15, Try.ntmps15
  go_wp2_with fail
  go_loopw [5] (fun iv wr => ∃ i m : Nat, i ≤ n ∧ iv = .int .i64 (i : Nat) ∧ w.drewN m = wr) (fun iv _ => n - (intOf iv).toNat)
  case atStart => exact ⟨0, 0, by omega, rfl, rfl⟩
  case round =>
    obtain ⟨i, m, hi, rfl, rfl⟩ := hrel
    by_cases hlt : i < n
    · have hlt' : (i : Int) < (n : Int) := by omega
      obtain ⟨b1, o1, rfl, _, hc1⟩ := rd_bool HA.out i hlt
      obtain ⟨b2, o2, rfl, _, hc2⟩ := rd_bool HB.out i hlt
      generalize l.getD i false = v at *
      go_wp2_with fail
      go_quiet (fail)
      go_wp2_with fail
      go_roundw
      case rel => exact ⟨i + 1, _, by omega, by go_num, by first | rfl | exact World.drewN_drewN _ _ _ | trivial⟩
      case measure => simp [intOf]; omega
    · obtain rfl : i = n := by omega
      have hlt' : ¬ (i : Int) < (i : Int) := by omega
      go_wp2_with fail
      go_ret
      exact ⟨rfl, m, rfl⟩

/-- A part of one row. -/
def PartOut (wd : Nat) (px : Nat → Nat) (w : World) (e : Ending) (w' : World) : Prop := ∃ A c, e = .returned (.slice A wd c) ∧ Rd w' A wd (bytesOf wd px) ∧ Below w.heap.size w w'
set_option maxRecDepth 20000 in
set_option maxHeartbeats 4000000 in
theorem pxPart (b o wd h n c y : Nat) (px : Nat → Nat) (w : World) (hR : Rd w (some ⟨b, o, none⟩) n (bytesOf n px)) (hnc : n ≤ c) (hw1 : 1 ≤ wd) (hw2 : wd ≤ 60) (hh2 : h ≤ 60) (hn : n = wd * h) (hy : y < h) :
    Calls Try.prog 11 #[.slice (some ⟨b, o, none⟩) n c, .int .i64 wd, .int .i64 0, .int .i64 y, .int .i64 wd, .int .i64 1] w (PartOut wd (rowPx px wd y) w) := by
  obtain ⟨i0, hi, hz0, hz1, hz2⟩ := info_parts info5
  have hyw : y * wd + wd ≤ n := by
    rw [hn, Nat.mul_comm wd h]
    have := Nat.mul_le_mul_right wd (show y + 1 ≤ h by omega)
    rwa [Nat.add_mul, Nat.one_mul] at this
  have hnb : n ≤ 60 * 60 := by rw [hn]; exact Nat.mul_le_mul hw2 hh2
  have hmul : (y : Int) * (wd : Int) = ((y * wd : Nat) : Int) := by simp
  have hRow : Rd w (some ⟨b, o + y * wd, none⟩) wd (bytesOf wd (rowPx px wd y)) := by
    obtain ⟨hl, h2⟩ := hR
    obtain ⟨b', o', hA, hb, hc⟩ := h2 (by omega)
    injection hA with hA
    simp only [Addr.mk.injEq, and_true] at hA
    obtain ⟨rfl, rfl⟩ := hA
    refine ⟨bytesOf_length _ _, fun _ => ⟨b, o + y * wd, rfl, hb, fun k hk => ?_⟩⟩
    rw [bytesOf_length] at hk
    have := hc (y * wd + k) (by rw [bytesOf_length]; omega)
    rw [← Nat.add_assoc] at this
    rw [this]
    simp [bytesOf, rowPx]
  have HROW := hid hRow
  have HLEN := hid (bytesOf_length wd (rowPx px wd y))
  have HONE := hid (bytes_one wd (rowPx px wd y))
  clear hR hRow hn
  have HRBE := hid (show ∃ z, z = bytesOf wd (rowPx px wd y) from ⟨_, rfl⟩)
  obtain ⟨RB, hRB⟩ := HRBE.out
  have HRB := hid hRB
  rw [← hRB] at HROW HLEN HONE
  clear hRB HRBE
  generalize y * wd = yw at *
  go_enter Try.func11, Try.ntmps11
  go_wp2_with fail
  go_loopw [13, 14] (fun ov iv wr => ∃ t : Nat, t ≤ 1 ∧ iv = .int .i64 ((y + t : Nat) : Int) ∧ Hid (Own wr w.heap.size 5 ov (if t = 0 then [] else RB)) ∧ Hid (Below w.heap.size w wr)) (fun _ iv _ => y + 1 - (intOf iv).toNat)
  case atStart => exact ⟨0, by omega, rfl, hid (Own.nil _ _ _), hid (Below.refl _ _)⟩
  case round =>
    obtain ⟨t, ht, rfl, HO, HB⟩ := hrel
    by_cases h0 : t = 0
    · subst h0
      rw [if_pos rfl] at HO
      have hlt' : ((y + 0 : Nat) : Int) < (y : Int) + 1 := by omega
      have hbs := HB.out.size
      have e1 : (yw : Int) + (wd : Int) ≤ (c : Int) := by omega
      have e2 : ((yw : Int) + (wd : Int)).toNat - yw = wd := by omega
      have HR2 := hid (HROW.out.below HB.out)
      go_wp2_with (at_builtin; refine wpList_app _ rfl (.tmp 23) (.tmp 37) 22 rfl w.heap.size 5 i0 _ 1 Try.underlying22 hi hz0 hz1 hz2 rfl _ [] rfl HO.out (some ⟨b, o + yw, none⟩) wd (c - yw) RB (by rfl) HR2.out HONE.out (by simp [maxLen]; omega) (by simp; omega) hbs ?_)
      intro v1 w8 hO2 hg _
      have HB8 := hid (below_app HB.out HO.out hg (Nat.le_refl _) hbs)
      try rw [List.nil_append] at hO2
      have HO8 := hid hO2
      clear hO2 hg
      go_wp2_with fail
      go_roundw
      case rel => exact ⟨1, by omega, by first | rfl | (congr 1; omega), by rw [if_neg (by decide)]; exact HO8, HB8⟩
      case measure => first | (simp [intOf]; done) | (simp [intOf]; omega)
    · obtain rfl : t = 1 := by omega
      rw [if_neg (by decide)] at HO
      have hlt' : ¬ ((y + 1 : Nat) : Int) < (y : Int) + 1 := by omega
      obtain ⟨A9, c9, hv9, hR9, _⟩ := HO.out.form
      rw [HLEN.out] at hv9 hR9
      subst hv9
      have HR9 := hid hR9
      clear hR9 HO
      go_wp2_with fail
      go_ret
      refine ⟨A9, c9, rfl, by rw [← HRB.out]; exact HR9.out, HB.out⟩

/-- Which grays of a row are another one. -/
def otherB (px : Nat → Nat) (wd t : Nat) : List Bool := (List.range wd).map fun x => decide (px x ≠ t)
def DarkOut (px : Nat → Nat) (wd t : Nat) (w : World) (e : Ending) (w' : World) : Prop := ∃ G, e = .returned (.slice (some ⟨G, 0, none⟩) wd wd) ∧ Rd w' (some ⟨G, 0, none⟩) wd ((otherB px wd t).map Value.bool) ∧ Below w.heap.size w w'
set_option maxRecDepth 20000 in
set_option maxHeartbeats 4000000 in
theorem pxDark (A : Option Addr) (wd c t : Nat) (px : Nat → Nat) (w : World) (hR : Rd w A wd (bytesOf wd px)) (hw1 : 1 ≤ wd) (hw2 : wd ≤ 60) :
    Calls Try.prog 12 #[.slice A wd c, .int .u8 t] w (DarkOut px wd t w) := by
  obtain ⟨i4, hi4, hb0, hb1, hb2⟩ := info_of infoBool
  have hmk := fun W' => run_make (P := Try.prog) W' 29 4 i4 (.bool false) Try.underlying29 hi4 hb0 .i64 .i64 (wd : Int) (wd : Int) (by omega) (by omega) (by rw [hb2]; omega) (by omega)
  simp only [hb1] at hmk
  obtain ⟨_, h2⟩ := hR
  obtain ⟨b, o, rfl, hb, hc⟩ := h2 (by omega)
  have HC := hid (fun k (hk : k < wd) => show w.cell? ⟨b, o + k, none⟩ = some (.int .u8 (px k : Nat)) from by
    have := hc k (by rw [bytesOf_length]; exact hk)
    rw [this]; simp [bytesOf])
  clear h2 hc
  have hlen : ((otherB px wd t).map Value.bool).length = wd := by simp [otherB]
  have HLEN := hid hlen
  clear hlen
  go_enter Try.func12, Try.ntmps12
  go_wp2_with fail
  have HA := hid (Arr.made w 4 (.bool false) wd)
  have HB := hid (show Below w.heap.size w (w.alloc (.cells (madeCells #[.bool false] wd) 4)) from (Below.refl _ _).alloc (Nat.le_refl _) _)
  generalize w.alloc (.cells (madeCells #[.bool false] wd) 4) = w1 at *
  clear hmk
  go_loopw [6] (fun iv wr => ∃ i : Nat, i ≤ wd ∧ iv = .int .i64 (i : Nat) ∧ Arr wr w.heap.size 4 (((otherB px wd t).map Value.bool).take i ++ List.replicate (wd - i) (.bool false)) ∧ Below w.heap.size w wr) (fun iv _ => wd - (intOf iv).toNat)
  case atStart => exact ⟨0, by omega, rfl, by simpa using HA.out, HB.out⟩
  case round =>
    clear HA HB
    obtain ⟨i, hi, rfl, hA, hB⟩ := hrel
    have HA := hid hA
    have HB := hid hB
    clear hA hB
    by_cases hlt : i < wd
    · have hlt' : (i : Int) < (wd : Int) := by omega
      have cb := (HB.out.cell (p := ⟨b, o + i, none⟩) hb).trans (HC.out i hlt)
      obtain ⟨v1, hv1⟩ := HA.out.has i (by rw [List.length_append, List.length_take, List.length_replicate, HLEN.out]; omega)
      have fz := HA.out.frozen i
      have HS2 := hid (fillSet (.bool false) ((otherB px wd t).map Value.bool) wd i (by rw [HLEN.out]; exact hlt) hlt)
      have HV := hid (show ((otherB px wd t).map Value.bool).getD i (.bool false) = .bool (decide (px i ≠ t)) from by simp [otherB, List.getD, List.getElem?_range hlt])
      rw [HV.out] at HS2
      clear HV
      generalize px i = p at *
      by_cases hp : p = t
      · have HD := hid (show decide (p ≠ t) = false from by simp [hp])
        rw [HD.out] at HS2
        have hp' : (p : Int) = (t : Int) := by omega
        clear HD
        go_wp2_with fail
        go_roundw
        case rel =>
          refine ⟨i + 1, by omega, by go_num, ?_, Below.setCell HB.out (by simp) _⟩
          rw [← HS2.out]
          exact HA.out.set i _
        case measure => simp [intOf]; omega
      · have HD := hid (show decide (p ≠ t) = true from by simp [hp])
        rw [HD.out] at HS2
        have hp' : ¬ (p : Int) = (t : Int) := by omega
        have hpb : ((p : Int) != (t : Int)) = true := by simpa [bne] using hp'
        clear HD
        go_wp2_with fail
        go_roundw
        case rel =>
          refine ⟨i + 1, by omega, by go_num, ?_, Below.setCell HB.out (by simp) _⟩
          rw [← HS2.out]
          try rw [hpb]
          exact HA.out.set i _
        case measure => simp [intOf]; omega
    · obtain rfl : i = wd := by omega
      have hlt' : ¬ (i : Int) < (i : Int) := by omega
      have hfull := HA.out
      rw [Nat.sub_self, List.replicate_zero, List.append_nil, List.take_of_length_le (by rw [HLEN.out]; exact Nat.le_refl _)] at hfull
      have HF := hid hfull
      clear hfull
      go_wp2_with fail
      go_ret
      refine ⟨w.heap.size, rfl, ?_, HB.out⟩
      have := Rd.of_arr HF.out
      rwa [HLEN.out] at this

def bothB (l : List Bool) (n : Nat) : Prop := ∃ i, 1 ≤ i ∧ i < n ∧ l.getD i false ≠ l.getD 0 false
def BothOut (l : List Bool) (n : Nat) (w : World) (e : Ending) (w' : World) : Prop := ∃ v m, e = .returned (.bool v) ∧ w' = w.drewN m ∧ (v = true → bothB l n)
set_option maxRecDepth 20000 in
set_option maxHeartbeats 4000000 in
theorem pxBoth (A : Option Addr) (n c : Nat) (l : List Bool) (w : World) (hR : Rd w A n (l.map Value.bool)) (h1 : 1 ≤ n) (h2 : n ≤ 60) :
    Calls Try.prog 13 #[.slice A n c, .int .i64 0, .int .i64 n] w (BothOut l n w) := by
  have HR := hid hR
  obtain ⟨b, o, rfl, _, c0⟩ := rd_bool hR 0 (by omega)
  clear hR
  rw [Nat.add_zero] at c0
  have HV := hid (show ∃ z, z = l.getD 0 false from ⟨_, rfl⟩)
  obtain ⟨v0, hv0⟩ := HV.out
  rw [← hv0] at c0
  have HV0 := hid hv0
  clear hv0 HV
  have hn0 : (0 : Int) < (n : Int) := by omega
  go_enter Try.func13, Try.ntmps13
  go_wp2_with fail
  go_loopw [7] (fun iv wr => ∃ i m : Nat, 1 ≤ i ∧ i ≤ n ∧ iv = .int .i64 (i : Nat) ∧ w.drewN m = wr) (fun iv _ => n - (intOf iv).toNat)
  case atStart => exact ⟨1, 0, by omega, by omega, rfl, rfl⟩
  case round =>
    obtain ⟨i, m, hi1, hi, rfl, rfl⟩ := hrel
    by_cases hlt : i < n
    · have hlt' : (i : Int) < (n : Int) := by omega
      obtain ⟨b1, o1, hA1, _, hc1⟩ := rd_bool HR.out i hlt
      injection hA1 with hA1
      simp only [Addr.mk.injEq, and_true] at hA1
      obtain ⟨rfl, rfl⟩ := hA1
      have HW := hid (show ∃ z, z = l.getD i false from ⟨_, rfl⟩)
      obtain ⟨vi, hvi⟩ := HW.out
      rw [← hvi] at hc1
      have HVI := hid hvi
      clear hvi HW
      by_cases he : vi = v0
      · subst he
        go_wp2_with fail
        go_quiet (fail)
        go_wp2_with fail
        go_roundw
        case rel => exact ⟨i + 1, _, by omega, by omega, by go_num, by first | rfl | exact World.drewN_drewN _ _ _ | trivial⟩
        case measure => simp [intOf]; omega
      · have hb0 : (!vi == v0) = true := by revert he; cases vi <;> cases v0 <;> simp
        have HB := hid (show bothB l n from ⟨i, hi1, hlt, by rw [← HVI.out, ← HV0.out]; exact he⟩)
        go_wp2_with fail
        go_quiet (fail)
        go_wp2_with fail
        go_ret
        exact ⟨true, _, rfl, by first | rfl | exact World.drewN_drewN _ _ _, fun _ => HB.out⟩
    · obtain rfl : i = n := by omega
      have hlt' : ¬ (i : Int) < (i : Int) := by omega
      go_wp2_with fail
      go_ret
      exact ⟨false, m, rfl, rfl, fun h => by cases h⟩

def ClearOut (px : Nat → Nat) (n : Nat) (w : World) (e : Ending) (w' : World) : Prop := ∃ v, e = .returned (.bool v) ∧ w = w' ∧ (v = true → ∀ k, k < n → px k = 0 ∨ px k = 255)
set_option maxRecDepth 20000 in
set_option maxHeartbeats 4000000 in
theorem pxClear (A : Option Addr) (n c : Nat) (px : Nat → Nat) (w : World) (hR : Rd w A n (bytesOf n px)) (h1 : 1 ≤ n) (h2 : n ≤ 60) (hpx : ∀ k, px k < 256) :
    Calls Try.prog 14 #[.slice A n c] w (ClearOut px n w) := by
  obtain ⟨_, h3⟩ := hR
  obtain ⟨b, o, rfl, hb, hc⟩ := h3 (by omega)
  have HC := hid (fun k (hk : k < n) => show w.cell? ⟨b, o + k, none⟩ = some (.int .u8 (px k : Nat)) from by
    have := hc k (by rw [bytesOf_length]; exact hk)
    rw [this]; simp [bytesOf])
  have HPX := hid hpx
  clear h3 hc hpx
  go_enter Try.func14, Try.ntmps14
  go_wp2_with fail
  go_loopw [3] (fun iv wr => ∃ i : Nat, i ≤ n ∧ iv = .int .i64 (i : Nat) ∧ w = wr ∧ Hid (∀ k, k < i → px k = 0 ∨ px k = 255)) (fun iv _ => n - (intOf iv).toNat)
  case atStart => exact ⟨0, by omega, rfl, rfl, hid (fun k hk => by omega)⟩
  case round =>
    obtain ⟨i, hi, rfl, rfl, HK⟩ := hrel
    by_cases hlt : i < n
    · have hlt' : (i : Int) < (n : Int) := by omega
      have cb := HC.out i hlt
      have hx := HPX.out i
      have HN := hid (fun (h : px i = 0 ∨ px i = 255) k (hk : k < i + 1) => show px k = 0 ∨ px k = 255 from by
        by_cases e : k = i
        · rw [e]; exact h
        · exact HK.out k (by omega))
      generalize px i = p at *
      by_cases h0 : p = 0
      · subst h0
        go_wp2_with fail
        go_roundw
        case rel => exact ⟨i + 1, by omega, by go_num, by first | rfl | trivial, hid (HN.out (.inl rfl))⟩
        case measure => simp [intOf]; omega
      · have h0' : (0 : Int) < (p : Int) := by omega
        by_cases h255 : p = 255
        · subst h255
          go_wp2_with fail
          go_roundw
          case rel => exact ⟨i + 1, by omega, by go_num, by first | rfl | trivial, hid (HN.out (.inr rfl))⟩
          case measure => simp [intOf]; omega
        · have hl' : (p : Int) < 255 := by omega
          go_wp2_with fail
          go_ret
          exact ⟨false, rfl, rfl, fun h => by cases h⟩
    · obtain rfl : i = n := by omega
      have hlt' : ¬ (i : Int) < (i : Int) := by omega
      go_wp2_with fail
      go_ret
      exact ⟨true, rfl, rfl, fun _ => HK.out⟩
end Go.Proofs.Ytkonepeejhgloaa
