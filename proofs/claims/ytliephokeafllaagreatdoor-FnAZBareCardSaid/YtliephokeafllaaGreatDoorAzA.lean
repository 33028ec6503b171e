/- Strings as bytes; spec.azOne, spec.AZTable. -/
import Derived.Test.YtliephokeafllaaGreatDoorAzL
import Derived.Test.YtliephokeafllaaGreatDoorOpen
import Derived.Test.YtliephokeafllaaGreatDoorProg
import Derived.KernelRfl
import Derived.BigQuiet
import Derived.Deep.QuietTactic
import Derived.Deep.RegionHeld3
import Derived.Deep.LoopGhost
namespace Go.Proofs.YtliephokeafllaaGreatDoor
open Go.RowKit
set_option linter.unusedVariables false
set_option linter.unusedSimpArgs false

/-- Bytes as a string. -/
def strOf (l : List Nat) : ByteArray := ⟨(l.map UInt8.ofNat).toArray⟩
theorem strOf_size (l : List Nat) : (strOf l).size = l.length := by simp [strOf, ByteArray.size]
theorem strOf_ext (l : List Nat) (i j : Nat) : (strOf l).extract i j = strOf ((l.drop i).take (j - i)) := by
  apply ByteArray.ext
  rw [ByteArray.data_extract]
  unfold strOf
  simp
theorem strOf_one (l : List Nat) (i : Nat) (h : i < l.length) : (strOf l).extract i (i + 1) = strOf [l.getD i 0] := by
  have : (l.drop i).take 1 = [l.getD i 0] := by
    rw [List.drop_eq_getElem_cons h, List.getD, List.getElem?_eq_getElem h]; rfl
  rw [strOf_ext, show i + 1 - i = 1 from by omega, this]
theorem strOf_app (a b : List Nat) : strOf a ++ strOf b = strOf (a ++ b) := by
  apply ByteArray.ext
  simp [strOf]
theorem strOf_ne (a : Nat) (l : List Nat) : strOf (a :: l) ≠ ⟨#[]⟩ := by
  intro h
  have := congrArg ByteArray.size h
  simp [strOf, ByteArray.size] at this
theorem Rd.one' (w : World) (e : TypeId) (v : Value) (s : Nat) (h : s = w.heap.size) : Rd (w.alloc (.cells #[v] e)) (Option.some ⟨s, 0, none⟩) 1 [v] := by
  subst h
  exact Rd.one w e v
def strs (l : List (List Nat)) : List Value := l.map fun x => Value.string (strOf x)
theorem strs_len (l : List (List Nat)) : (strs l).length = l.length := by simp [strs]
theorem one1_next (l : List Nat) (i : Nat) (h : i < l.length) : strs (one1 (l.take (i + 1))) = strs (one1 (l.take i)) ++ [.string (strOf [l.getD i 0])] := by
  rw [List.take_succ_eq_append_getElem h, List.getD, List.getElem?_eq_getElem h]
  simp only [strs, one1, List.map_append, List.map_cons, List.map_nil]
  rfl
theorem info9 : (Tryz.prog.info? 9).map (fun i => (i.zero, i.size, i.bytes)) = some (some (.string ⟨#[]⟩), 1, 16) := by kernel_rfl
theorem info_of {t : TypeId} {z : Value} {b : Nat} (h : (Tryz.prog.info? t).map (fun i => (i.zero, i.size, i.bytes)) = some (some z, 1, b)) : ∃ i, Tryz.prog.info? t = some i ∧ i.zero = some z ∧ i.size = 1 ∧ i.bytes = b := by
  cases hi : Tryz.prog.info? t with
  | none => rw [hi] at h; cases h
  | some i =>
    rw [hi] at h
    simp only [Option.map_some, Option.some.injEq, Prod.mk.injEq] at h
    exact ⟨i, rfl, h.1, h.2.1, h.2.2⟩
theorem Own.fresh {w : World} {B : Nat} {e : TypeId} {A : Option Addr} {n c : Nat} {xs : List Value} (h : Own w B e (.slice A n c) xs) : ∀ ad, A = some ad → B ≤ ad.block := fun ad hA => (Own.lt h ad.block (by subst hA; rfl)).1
/-- A list of strings in new memory. -/
def StrsOut (l : List (List Nat)) (w : World) (e : Ending) (w' : World) : Prop := ∃ A c, e = .returned (.slice A l.length c) ∧ Rd w' A l.length (strs l) ∧ Below w.heap.size w w' ∧ ∀ ad, A = some ad → w.heap.size ≤ ad.block

set_option maxRecDepth 20000 in
set_option maxHeartbeats 4000000 in
theorem azOne (l : List Nat) (w : World) (hl : l.length ≤ 40) (h8 : ∀ c ∈ l, c < 256) : Calls Tryz.prog 75 #[.string (strOf l)] w (StrsOut (one1 l) w) := by
  obtain ⟨i4, hi4, hb0, hb1, hb2⟩ := info_of info9
  have hsz := strOf_size l
  go_enter Tryz.func75, Tryz.ntmps75
  go_wp2_with fail
  go_loopw [3, 4] (fun ov iv wr => ∃ i : Nat, i ≤ l.length ∧ iv = .int .i64 (i : Nat) ∧ Hid (Own wr w.heap.size 9 ov (strs (one1 (l.take i)))) ∧ Hid (Below w.heap.size w wr)) (fun _ iv _ => l.length - (intOf iv).toNat)
  case atStart => exact ⟨0, by omega, rfl, hid (Own.nil _ _ _), hid (Below.refl _ _)⟩
  case round =>
    obtain ⟨i, hi, rfl, HO, HB⟩ := hrel
    by_cases hlt : i < l.length
    · have hlt' : (i : Int) < (l.length : Int) := by omega
      have hlt2 : (i : Int) < ((strOf l).size : Int) := by rw [hsz]; omega
      have hx := strOf_one l i hlt
      have HNX := hid (one1_next l i hlt)
      have hlen : (strs (one1 (l.take i))).length = i := by simp [strs, one1]; omega
      generalize strs (one1 (l.take i)) = xs at *
      generalize strOf [l.getD i 0] = sv at *
      have hbs := HB.out.size
      go_wp2_with (at_builtin; refine wpList_app _ rfl _ _ 100 rfl w.heap.size 9 i4 _ 16 Tryz.underlying100 hi4 hb0 hb1 hb2 rfl _ xs rfl (HO.out.alloc _) _ 1 1 [.string sv] rfl (Rd.one' _ _ _ _ rfl) (by simp [Value.oneCell']) (by rw [hlen]; unfold maxLen; omega) (by rw [hlen]; omega) (by simp; omega) ?_)
      intro v1 w3 hO hg hown
      have HO3 := hid (show Own w3 w.heap.size 9 v1 (strs (one1 (l.take (i + 1)))) from by rw [HNX.out]; exact hO)
      have HB3 := hid (below_app (HB.out.alloc hbs (.cells #[.string sv] 9)) (HO.out.alloc _) hg (Nat.le_refl _) (by simp; omega))
      clear hO hg hown HO HB
      go_wp2_with fail
      go_roundw
      case rel => exact ⟨i + 1, by omega, by go_num, HO3, HB3⟩
      case measure => simp [intOf]; omega
    · obtain rfl : i = l.length := by omega
      have hlt2 : ¬ (l.length : Int) < ((strOf l).size : Int) := by rw [hsz]; omega
      have hO := HO.out
      rw [List.take_length] at hO
      obtain ⟨A9, c9, hv9, hR9, _⟩ := hO.form
      rw [strs_len] at hv9 hR9
      subst hv9
      have HFR := hid hO.fresh
      have HR9 := hid hR9
      clear hR9 hO HO
      go_wp2_with fail
      go_ret
      exact ⟨A9, c9, rfl, HR9.out, HB.out, HFR.out⟩

theorem Own.lit {w : World} {B : Nat} {e : TypeId} (cs : Array Value) (hb : B ≤ w.heap.size) (hm : cs.size ≤ maxLen) : Own (w.alloc (.cells cs e)) B e (.slice (some ⟨w.heap.size, 0, none⟩) cs.size cs.size) cs.toList := by
  have := World.ownsRow_lit (base := B) (e := e) (size := 1) w cs cs.size hb hm (by simp)
  simpa [Own] using this
theorem strs_one (l : List (List Nat)) : ∀ u ∈ strs l, u.oneCell' = true := by
  intro u hu
  obtain ⟨x, _, rfl⟩ := List.mem_map.1 hu
  rfl
set_option maxRecDepth 20000 in
set_option maxHeartbeats 8000000 in
theorem azTable0 (w : World) : Calls Tryz.prog 48 #[.int .i64 0] w (StrsOut (azTab 0) w) := by
  obtain ⟨i4, hi4, hb0, hb1, hb2⟩ := info_of info9
  have hls : strOf (upTo 65 26) = ⟨#[65, 66, 67, 68, 69, 70, 71, 72, 73, 74, 75, 76, 77, 78, 79, 80, 81, 82, 83, 84, 85, 86, 87, 88, 89, 90]⟩ := by kernel_rfl
  have oz := azOne (upTo 65 26) (w.alloc (.cells #[.string ⟨#[]⟩, .string ⟨#[32]⟩] 9)) (by decide) (by decide)
  rw [hls] at oz
  have HO := hid (Own.lit (w := w) (B := w.heap.size) (e := 9) #[.string ⟨#[]⟩, .string ⟨#[32]⟩] (Nat.le_refl _) (by decide))
  have HB := hid (show Below w.heap.size w (w.alloc (.cells #[.string ⟨#[]⟩, .string ⟨#[32]⟩] 9)) from (Below.refl _ _).alloc (Nat.le_refl _) _)
  have HOO := hid oz
  clear oz hls
  go_enter Tryz.func48, Tryz.ntmps48
  go_wp2_with fail
  refine HOO.out.mono ?_
  rintro e w1 ⟨Ar, cr, rfl, hR, hb1', _⟩
  have HO1 := hid (show Own w1 w.heap.size 9 (.slice (some ⟨w.heap.size, 0, none⟩) 2 2) (strs [[], [32]]) from HO.out.below hb1' (fun k hk => by simp [Value.ownBlock] at hk; subst hk; simp))
  have HR := hid (show Rd w1 Ar 26 (strs (one1 (upTo 65 26))) from hR)
  have HB1 := hid (HB.out.trans (hb1'.mono HB.out.size))
  have hs1 := HB1.out.size
  clear hR hb1' HOO HO HB
  go_wp2_with (at_builtin; refine wpList_app _ rfl (.tmp 6) (.tmp 7) 100 rfl w.heap.size 9 i4 _ 16 Tryz.underlying100 hi4 hb0 hb1 hb2 rfl _ (strs [[], [32]]) rfl HO1.out Ar 26 cr (strs (one1 (upTo 65 26))) rfl HR.out (strs_one _) (by decide) (by decide) hs1 ?_)
  intro v1 w2 hO2 hg2 hown2
  have HB2 := hid (below_app HB1.out HO1.out hg2 (Nat.le_refl _) hs1)
  have hs2 := HB2.out.size
  have HO2 := hid hO2
  clear hO2 hg2 hown2 HO1 HR HB1
  go_wp2_with (at_builtin; refine wpList_app _ rfl (.tmp 8) (.tmp 9) 100 rfl w.heap.size 9 i4 _ 16 Tryz.underlying100 hi4 hb0 hb1 hb2 rfl v1 _ rfl (HO2.out.alloc _) (some ⟨w2.heap.size, 0, none⟩) 4 4 (strs [[], [], [], []]) rfl (Rd.of_arr (Arr.of_new w2 9 #[.string ⟨#[]⟩, .string ⟨#[]⟩, .string ⟨#[]⟩, .string ⟨#[]⟩])) (strs_one _) (by decide) (by decide) (by simp; omega) ?_)
  intro v3 w3 hO3 hg3 hown3
  have HB3 := hid (below_app (HB2.out.alloc hs2 (.cells #[.string ⟨#[]⟩, .string ⟨#[]⟩, .string ⟨#[]⟩, .string ⟨#[]⟩] 9)) (HO2.out.alloc _) hg3 (Nat.le_refl _) (by simp; omega))
  have hO4 : Own w3 w.heap.size 9 v3 (strs (azTab 0)) := hO3
  obtain ⟨A9, c9, hv9, hR9, _⟩ := hO4.form
  rw [strs_len] at hv9 hR9
  subst hv9
  have HFR := hid hO4.fresh
  have HR9 := hid hR9
  clear hO3 hO4 hg3 hown3 HO2 HB2 hR9
  go_wp2_with fail
  go_ret
  exact ⟨A9, c9, rfl, HR9.out, HB3.out, HFR.out⟩

set_option maxRecDepth 20000 in
set_option maxHeartbeats 8000000 in
theorem azTable1 (w : World) : Calls Tryz.prog 48 #[.int .i64 1] w (StrsOut (azTab 1) w) := by
  obtain ⟨i4, hi4, hb0, hb1, hb2⟩ := info_of info9
  have hls : strOf (upTo 97 26) = ⟨#[97, 98, 99, 100, 101, 102, 103, 104, 105, 106, 107, 108, 109, 110, 111, 112, 113, 114, 115, 116, 117, 118, 119, 120, 121, 122]⟩ := by kernel_rfl
  have oz := azOne (upTo 97 26) (w.alloc (.cells #[.string ⟨#[]⟩, .string ⟨#[32]⟩] 9)) (by decide) (by decide)
  rw [hls] at oz
  have HO := hid (Own.lit (w := w) (B := w.heap.size) (e := 9) #[.string ⟨#[]⟩, .string ⟨#[32]⟩] (Nat.le_refl _) (by decide))
  have HB := hid (show Below w.heap.size w (w.alloc (.cells #[.string ⟨#[]⟩, .string ⟨#[32]⟩] 9)) from (Below.refl _ _).alloc (Nat.le_refl _) _)
  have HOO := hid oz
  clear oz hls
  go_enter Tryz.func48, Tryz.ntmps48
  go_wp2_with fail
  refine HOO.out.mono ?_
  rintro e w1 ⟨Ar, cr, rfl, hR, hb1', _⟩
  have HO1 := hid (show Own w1 w.heap.size 9 (.slice (some ⟨w.heap.size, 0, none⟩) 2 2) (strs [[], [32]]) from HO.out.below hb1' (fun k hk => by simp [Value.ownBlock] at hk; subst hk; simp))
  have HR := hid (show Rd w1 Ar 26 (strs (one1 (upTo 97 26))) from hR)
  have HB1 := hid (HB.out.trans (hb1'.mono HB.out.size))
  have hs1 := HB1.out.size
  clear hR hb1' HOO HO HB
  go_wp2_with (at_builtin; refine wpList_app _ rfl (.tmp 13) (.tmp 14) 100 rfl w.heap.size 9 i4 _ 16 Tryz.underlying100 hi4 hb0 hb1 hb2 rfl _ (strs [[], [32]]) rfl HO1.out Ar 26 cr (strs (one1 (upTo 97 26))) rfl HR.out (strs_one _) (by decide) (by decide) hs1 ?_)
  intro v1 w2 hO2 hg2 hown2
  have HB2 := hid (below_app HB1.out HO1.out hg2 (Nat.le_refl _) hs1)
  have hs2 := HB2.out.size
  have HO2 := hid hO2
  clear hO2 hg2 hown2 HO1 HR HB1
  go_wp2_with (at_builtin; refine wpList_app _ rfl (.tmp 15) (.tmp 16) 100 rfl w.heap.size 9 i4 _ 16 Tryz.underlying100 hi4 hb0 hb1 hb2 rfl v1 _ rfl (HO2.out.alloc _) (some ⟨w2.heap.size, 0, none⟩) 4 4 (strs [[], [], [], []]) rfl (Rd.of_arr (Arr.of_new w2 9 #[.string ⟨#[]⟩, .string ⟨#[]⟩, .string ⟨#[]⟩, .string ⟨#[]⟩])) (strs_one _) (by decide) (by decide) (by simp; omega) ?_)
  intro v3 w3 hO3 hg3 hown3
  have HB3 := hid (below_app (HB2.out.alloc hs2 (.cells #[.string ⟨#[]⟩, .string ⟨#[]⟩, .string ⟨#[]⟩, .string ⟨#[]⟩] 9)) (HO2.out.alloc _) hg3 (Nat.le_refl _) (by simp; omega))
  have hO4 : Own w3 w.heap.size 9 v3 (strs (azTab 1)) := hO3
  obtain ⟨A9, c9, hv9, hR9, _⟩ := hO4.form
  rw [strs_len] at hv9 hR9
  subst hv9
  have HFR := hid hO4.fresh
  have HR9 := hid hR9
  clear hO3 hO4 hg3 hown3 HO2 HB2 hR9
  go_wp2_with fail
  go_ret
  exact ⟨A9, c9, rfl, HR9.out, HB3.out, HFR.out⟩

set_option maxRecDepth 20000 in
set_option maxHeartbeats 8000000 in
theorem azTable2 (w : World) : Calls Tryz.prog 48 #[.int .i64 2] w (StrsOut (azTab 2) w) := by
  obtain ⟨i4, hi4, hb0, hb1, hb2⟩ := info_of info9
  have hls : strOf (upTo 1 13 ++ upTo 27 5 ++ [64, 92, 94, 95, 96, 124, 126, 127]) = ⟨#[1, 2, 3, 4, 5, 6, 7, 8, 9, 10, 11, 12, 13, 27, 28, 29, 30, 31, 64, 92, 94, 95, 96, 124, 126, 127]⟩ := by kernel_rfl
  have oz := azOne (upTo 1 13 ++ upTo 27 5 ++ [64, 92, 94, 95, 96, 124, 126, 127]) (w.alloc (.cells #[.string ⟨#[]⟩, .string ⟨#[32]⟩] 9)) (by decide) (by decide)
  rw [hls] at oz
  have HO := hid (Own.lit (w := w) (B := w.heap.size) (e := 9) #[.string ⟨#[]⟩, .string ⟨#[32]⟩] (Nat.le_refl _) (by decide))
  have HB := hid (show Below w.heap.size w (w.alloc (.cells #[.string ⟨#[]⟩, .string ⟨#[32]⟩] 9)) from (Below.refl _ _).alloc (Nat.le_refl _) _)
  have HOO := hid oz
  clear oz hls
  go_enter Tryz.func48, Tryz.ntmps48
  go_wp2_with fail
  refine HOO.out.mono ?_
  rintro e w1 ⟨Ar, cr, rfl, hR, hb1', _⟩
  have HO1 := hid (show Own w1 w.heap.size 9 (.slice (some ⟨w.heap.size, 0, none⟩) 2 2) (strs [[], [32]]) from HO.out.below hb1' (fun k hk => by simp [Value.ownBlock] at hk; subst hk; simp))
  have HR := hid (show Rd w1 Ar 26 (strs (one1 (upTo 1 13 ++ upTo 27 5 ++ [64, 92, 94, 95, 96, 124, 126, 127]))) from hR)
  have HB1 := hid (HB.out.trans (hb1'.mono HB.out.size))
  have hs1 := HB1.out.size
  clear hR hb1' HOO HO HB
  go_wp2_with (at_builtin; refine wpList_app _ rfl (.tmp 20) (.tmp 21) 100 rfl w.heap.size 9 i4 _ 16 Tryz.underlying100 hi4 hb0 hb1 hb2 rfl _ (strs [[], [32]]) rfl HO1.out Ar 26 cr (strs (one1 (upTo 1 13 ++ upTo 27 5 ++ [64, 92, 94, 95, 96, 124, 126, 127]))) rfl HR.out (strs_one _) (by decide) (by decide) hs1 ?_)
  intro v1 w2 hO2 hg2 hown2
  have HB2 := hid (below_app HB1.out HO1.out hg2 (Nat.le_refl _) hs1)
  have hs2 := HB2.out.size
  have HO2 := hid hO2
  clear hO2 hg2 hown2 HO1 HR HB1
  go_wp2_with (at_builtin; refine wpList_app _ rfl (.tmp 22) (.tmp 23) 100 rfl w.heap.size 9 i4 _ 16 Tryz.underlying100 hi4 hb0 hb1 hb2 rfl v1 _ rfl (HO2.out.alloc _) (some ⟨w2.heap.size, 0, none⟩) 4 4 (strs [[], [], [], []]) rfl (Rd.of_arr (Arr.of_new w2 9 #[.string ⟨#[]⟩, .string ⟨#[]⟩, .string ⟨#[]⟩, .string ⟨#[]⟩])) (strs_one _) (by decide) (by decide) (by simp; omega) ?_)
  intro v3 w3 hO3 hg3 hown3
  have HB3 := hid (below_app (HB2.out.alloc hs2 (.cells #[.string ⟨#[]⟩, .string ⟨#[]⟩, .string ⟨#[]⟩, .string ⟨#[]⟩] 9)) (HO2.out.alloc _) hg3 (Nat.le_refl _) (by simp; omega))
  have hO4 : Own w3 w.heap.size 9 v3 (strs (azTab 2)) := hO3
  obtain ⟨A9, c9, hv9, hR9, _⟩ := hO4.form
  rw [strs_len] at hv9 hR9
  subst hv9
  have HFR := hid hO4.fresh
  have HR9 := hid hR9
  clear hO3 hO4 hg3 hown3 HO2 HB2 hR9
  go_wp2_with fail
  go_ret
  exact ⟨A9, c9, rfl, HR9.out, HB3.out, HFR.out⟩

set_option maxRecDepth 20000 in
set_option maxHeartbeats 8000000 in
theorem azTable3 (w : World) : Calls Tryz.prog 48 #[.int .i64 3] w (StrsOut (azTab 3) w) := by
  obtain ⟨i4, hi4, hb0, hb1, hb2⟩ := info_of info9
  have hls : strOf (upTo 33 15 ++ [58, 59, 60, 61, 62, 63, 91, 93, 123, 125]) = ⟨#[33, 34, 35, 36, 37, 38, 39, 40, 41, 42, 43, 44, 45, 46, 47, 58, 59, 60, 61, 62, 63, 91, 93, 123, 125]⟩ := by kernel_rfl
  have oz := azOne (upTo 33 15 ++ [58, 59, 60, 61, 62, 63, 91, 93, 123, 125]) (w.alloc (.cells #[.string ⟨#[]⟩, .string ⟨#[13]⟩, .string ⟨#[13, 10]⟩, .string ⟨#[46, 32]⟩, .string ⟨#[44, 32]⟩, .string ⟨#[58, 32]⟩] 9)) (by decide) (by decide)
  rw [hls] at oz
  have HO := hid (Own.lit (w := w) (B := w.heap.size) (e := 9) #[.string ⟨#[]⟩, .string ⟨#[13]⟩, .string ⟨#[13, 10]⟩, .string ⟨#[46, 32]⟩, .string ⟨#[44, 32]⟩, .string ⟨#[58, 32]⟩] (Nat.le_refl _) (by decide))
  have HB := hid (show Below w.heap.size w (w.alloc (.cells #[.string ⟨#[]⟩, .string ⟨#[13]⟩, .string ⟨#[13, 10]⟩, .string ⟨#[46, 32]⟩, .string ⟨#[44, 32]⟩, .string ⟨#[58, 32]⟩] 9)) from (Below.refl _ _).alloc (Nat.le_refl _) _)
  have HOO := hid oz
  clear oz hls
  go_enter Tryz.func48, Tryz.ntmps48
  go_wp2_with fail
  refine HOO.out.mono ?_
  rintro e w1 ⟨Ar, cr, rfl, hR, hb1', _⟩
  have HO1 := hid (show Own w1 w.heap.size 9 (.slice (some ⟨w.heap.size, 0, none⟩) 6 6) (strs [[], [13], [13, 10], [46, 32], [44, 32], [58, 32]]) from HO.out.below hb1' (fun k hk => by simp [Value.ownBlock] at hk; subst hk; simp))
  have HR := hid (show Rd w1 Ar 25 (strs (one1 (upTo 33 15 ++ [58, 59, 60, 61, 62, 63, 91, 93, 123, 125]))) from hR)
  have HB1 := hid (HB.out.trans (hb1'.mono HB.out.size))
  have hs1 := HB1.out.size
  clear hR hb1' HOO HO HB
  go_wp2_with (at_builtin; refine wpList_app _ rfl (.tmp 27) (.tmp 28) 100 rfl w.heap.size 9 i4 _ 16 Tryz.underlying100 hi4 hb0 hb1 hb2 rfl _ (strs [[], [13], [13, 10], [46, 32], [44, 32], [58, 32]]) rfl HO1.out Ar 25 cr (strs (one1 (upTo 33 15 ++ [58, 59, 60, 61, 62, 63, 91, 93, 123, 125]))) rfl HR.out (strs_one _) (by decide) (by decide) hs1 ?_)
  intro v1 w2 hO2 hg2 hown2
  have HB2 := hid (below_app HB1.out HO1.out hg2 (Nat.le_refl _) hs1)
  have hs2 := HB2.out.size
  have HO2 := hid hO2
  clear hO2 hg2 hown2 HO1 HR HB1
  go_wp2_with (at_builtin; refine wpList_app _ rfl (.tmp 29) (.tmp 30) 100 rfl w.heap.size 9 i4 _ 16 Tryz.underlying100 hi4 hb0 hb1 hb2 rfl v1 _ rfl (HO2.out.alloc _) (some ⟨w2.heap.size, 0, none⟩) 1 1 (strs [[]]) rfl (Rd.of_arr (Arr.of_new w2 9 #[.string ⟨#[]⟩])) (strs_one _) (by decide) (by decide) (by simp; omega) ?_)
  intro v3 w3 hO3 hg3 hown3
  have HB3 := hid (below_app (HB2.out.alloc hs2 (.cells #[.string ⟨#[]⟩] 9)) (HO2.out.alloc _) hg3 (Nat.le_refl _) (by simp; omega))
  have hO4 : Own w3 w.heap.size 9 v3 (strs (azTab 3)) := hO3
  obtain ⟨A9, c9, hv9, hR9, _⟩ := hO4.form
  rw [strs_len] at hv9 hR9
  subst hv9
  have HFR := hid hO4.fresh
  have HR9 := hid hR9
  clear hO3 hO4 hg3 hown3 HO2 HB2 hR9
  go_wp2_with fail
  go_ret
  exact ⟨A9, c9, rfl, HR9.out, HB3.out, HFR.out⟩

set_option maxRecDepth 20000 in
set_option maxHeartbeats 8000000 in
theorem azTable4 (w : World) : Calls Tryz.prog 48 #[.int .i64 4] w (StrsOut (azTab 4) w) := by
  obtain ⟨i4, hi4, hb0, hb1, hb2⟩ := info_of info9
  have hls : strOf (upTo 48 10 ++ [44, 46]) = ⟨#[48, 49, 50, 51, 52, 53, 54, 55, 56, 57, 44, 46]⟩ := by kernel_rfl
  have oz := azOne (upTo 48 10 ++ [44, 46]) (w.alloc (.cells #[.string ⟨#[]⟩, .string ⟨#[32]⟩] 9)) (by decide) (by decide)
  rw [hls] at oz
  have HO := hid (Own.lit (w := w) (B := w.heap.size) (e := 9) #[.string ⟨#[]⟩, .string ⟨#[32]⟩] (Nat.le_refl _) (by decide))
  have HB := hid (show Below w.heap.size w (w.alloc (.cells #[.string ⟨#[]⟩, .string ⟨#[32]⟩] 9)) from (Below.refl _ _).alloc (Nat.le_refl _) _)
  have HOO := hid oz
  clear oz hls
  go_enter Tryz.func48, Tryz.ntmps48
  go_wp2_with fail
  refine HOO.out.mono ?_
  rintro e w1 ⟨Ar, cr, rfl, hR, hb1', _⟩
  have HO1 := hid (show Own w1 w.heap.size 9 (.slice (some ⟨w.heap.size, 0, none⟩) 2 2) (strs [[], [32]]) from HO.out.below hb1' (fun k hk => by simp [Value.ownBlock] at hk; subst hk; simp))
  have HR := hid (show Rd w1 Ar 12 (strs (one1 (upTo 48 10 ++ [44, 46]))) from hR)
  have HB1 := hid (HB.out.trans (hb1'.mono HB.out.size))
  have hs1 := HB1.out.size
  clear hR hb1' HOO HO HB
  go_wp2_with (at_builtin; refine wpList_app _ rfl (.tmp 32) (.tmp 33) 100 rfl w.heap.size 9 i4 _ 16 Tryz.underlying100 hi4 hb0 hb1 hb2 rfl _ (strs [[], [32]]) rfl HO1.out Ar 12 cr (strs (one1 (upTo 48 10 ++ [44, 46]))) rfl HR.out (strs_one _) (by decide) (by decide) hs1 ?_)
  intro v1 w2 hO2 hg2 hown2
  have HB2 := hid (below_app HB1.out HO1.out hg2 (Nat.le_refl _) hs1)
  have hs2 := HB2.out.size
  have HO2 := hid hO2
  clear hO2 hg2 hown2 HO1 HR HB1
  go_wp2_with (at_builtin; refine wpList_app _ rfl (.tmp 34) (.tmp 35) 100 rfl w.heap.size 9 i4 _ 16 Tryz.underlying100 hi4 hb0 hb1 hb2 rfl v1 _ rfl (HO2.out.alloc _) (some ⟨w2.heap.size, 0, none⟩) 2 2 (strs [[], []]) rfl (Rd.of_arr (Arr.of_new w2 9 #[.string ⟨#[]⟩, .string ⟨#[]⟩])) (strs_one _) (by decide) (by decide) (by simp; omega) ?_)
  intro v3 w3 hO3 hg3 hown3
  have HB3 := hid (below_app (HB2.out.alloc hs2 (.cells #[.string ⟨#[]⟩, .string ⟨#[]⟩] 9)) (HO2.out.alloc _) hg3 (Nat.le_refl _) (by simp; omega))
  have hO4 : Own w3 w.heap.size 9 v3 (strs (azTab 4)) := hO3
  obtain ⟨A9, c9, hv9, hR9, _⟩ := hO4.form
  rw [strs_len] at hv9 hR9
  subst hv9
  have HFR := hid hO4.fresh
  have HR9 := hid hR9
  clear hO3 hO4 hg3 hown3 HO2 HB2 hR9
  go_wp2_with fail
  go_ret
  exact ⟨A9, c9, rfl, HR9.out, HB3.out, HFR.out⟩

theorem azTable (m : Nat) (hm : m ≤ 4) (w : World) : Calls Tryz.prog 48 #[.int .i64 m] w (StrsOut (azTab m) w) := by
  have : m = 0 ∨ m = 1 ∨ m = 2 ∨ m = 3 ∨ m = 4 := by omega
  rcases this with rfl | rfl | rfl | rfl | rfl
  · exact azTable0 w
  · exact azTable1 w
  · exact azTable2 w
  · exact azTable3 w
  · exact azTable4 w
end Go.Proofs.YtliephokeafllaaGreatDoor
