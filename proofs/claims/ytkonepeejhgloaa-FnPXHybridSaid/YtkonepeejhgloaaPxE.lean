/- impl.GrayInvert, GrayMirror, laws.pxSame, FnPXTwice: the walks. -/
import Derived.Test.YtkonepeejhgloaaPxD
import Derived.Laws.BytesArg
namespace Go.Proofs.Ytkonepeejhgloaa
open Go.RowKit
set_option linter.unusedVariables false
/-- Grays are handed back, and true. -/
def GrOut (n : Nat) (px : Nat → Nat) (w : World) (e : Ending) (w' : World) : Prop :=
  ∃ A c, e = .returned (.tuple #[.slice A n c, .bool true]) ∧ n ≤ c ∧ Rd w' A n (bytesOf n px) ∧ Below w.heap.size w w'
set_option maxRecDepth 20000 in
set_option maxHeartbeats 4000000 in
theorem grayMirror (wd h n c : Nat) (A : Option Addr) (px : Nat → Nat) (w : World) (hR : Rd w A n (bytesOf n px)) (hw1 : 1 ≤ wd) (hw2 : wd ≤ 60) (hh1 : 1 ≤ h) (hh2 : h ≤ 60) (hn : n = wd * h) (hpx : ∀ k, px k < 256) :
    Calls Try.prog 8 #[.int .i64 wd, .int .i64 h, .slice A n c] w (GrOut n (fun k => px (mir wd k)) w) := by
  obtain ⟨i0, hi, hz0, hz1, hz2⟩ := info_parts info5
  have hnb : n ≤ 60 * 60 := by rw [hn]; exact Nat.mul_le_mul hw2 hh2
  have so := source wd h n c A px true w hR hw1 hw2 hh1 hh2 hn hpx
  have H1 := hid (bytes_one n fun k => px (mir wd k))
  have HBL := hid (bytesOf_length n fun k => px (mir wd k))
  clear hR hn hpx
  go_enter Try.func8, Try.ntmps8
  go_wp2_with fail
  refine so.mono ?_
  rintro e w1 ⟨q, g, cap, rfl, hO, hP, hc, hb⟩
  clear so
  have m1 := metM ⟨q, 0, none⟩
  have gm := getMatrix w1 q g wd h n cap hP
  have hR : Rd w1 (some ⟨g, 0, none⟩) n (bytesOf n fun k => px (mir wd k)) := hO.rd
  have HB := hid hb
  clear hO hP hb
  go_wp2_with (first
    | (go_at_call 72; ((with_reducible refine gm.mono ?_); rintro e w3 ⟨rfl, rfl⟩))
    | (at_builtin; refine wpList_app _ rfl (.const (.slice none 0 0)) (.tmp 20) 22 rfl w1.heap.size 5 i0 _ 1 Try.underlying22 hi hz0 hz1 hz2 rfl (.slice none 0 0) [] rfl (Own.nil _ _ _) (some ⟨g, 0, none⟩) n cap _ rfl hR H1.out (by simp [maxLen]; omega) (by simp; omega) (Nat.le_refl _) ?_))
  intro v4 w4 hO4 hg4 _
  obtain ⟨A4, c4, hv4, hR4, hc4⟩ := hO4.form
  try simp only [List.nil_append] at hv4 hR4 hc4
  rw [HBL.out] at hv4 hR4 hc4
  subst hv4
  have HR4 := hid hR4
  have HB4 := hid (show Below w.heap.size w w4 from HB.out.trans (((Below.refl _ _).grown hg4 (Nat.le_refl _) (by simp [Value.ownBlock])).mono HB.out.size))
  clear hO4 hg4 hR4 hR gm m1
  go_wp2_with fail
  go_ret2
  exact ⟨A4, c4, rfl, hc4, HR4.out, HB4.out⟩
set_option maxRecDepth 20000 in
set_option maxHeartbeats 4000000 in
theorem grayInvert (wd h n c : Nat) (A : Option Addr) (px : Nat → Nat) (w : World) (hR : Rd w A n (bytesOf n px)) (hw1 : 1 ≤ wd) (hw2 : wd ≤ 60) (hh1 : 1 ≤ h) (hh2 : h ≤ 60) (hn : n = wd * h) (hpx : ∀ k, px k < 256) :
    Calls Try.prog 7 #[.int .i64 wd, .int .i64 h, .slice A n c] w (GrOut n (fun k => 255 - px k) w) := by
  obtain ⟨i0, hi, hz0, hz1, hz2⟩ := info_parts info5
  have hnb : n ≤ 60 * 60 := by rw [hn]; exact Nat.mul_le_mul hw2 hh2
  have hn1 : 1 * 1 ≤ n := by rw [hn]; exact Nat.mul_le_mul hw1 hh1
  have so := source wd h n c A px false w hR hw1 hw2 hh1 hh2 hn hpx
  have H1 := hid (bytes_one n fun k => 255 - px k)
  have HBL := hid (bytesOf_length n fun k => 255 - px k)
  have HN := hid hn
  have HPX := hid hpx
  clear hR hn hpx
  go_enter Try.func7, Try.ntmps7
  go_wp2_with fail
  refine so.mono ?_
  rintro e w1 ⟨q, g, cap, rfl, hO, hP, hc, hb⟩
  clear so
  have m1 := metI ⟨q, 0, none⟩
  have iv := invert q w1
  have HO := hid hO
  have HP := hid hP
  have HB := hid hb
  clear hO hP hb
  go_wp2_with fail
  refine iv.mono ?_
  rintro e w2 ⟨rfl, hI, hb2⟩
  have m2 := metJ ⟨w1.heap.size, 0, none⟩
  have HB2 := hid (HB.out.trans (hb2.mono HB.out.size))
  have hO2 := HO.out.below hb2 HO.out.lt
  have im := invMatrix w2 w1.heap.size q g wd h n cap px hI (HP.out.below hb2 (Arr.lt HP.out)) (fun k hk => hO2.cell k hk) hO2.lt hc hw2 hh2 HN.out (by omega) HPX.out
  clear hI hb2 hO2 iv m1
  go_wp2_with fail
  refine im.mono ?_
  rintro e w3 ⟨b, rfl, hA, hb3⟩
  have hR := Rd.of_arr hA
  rw [HBL.out] at hR
  have HB3 := hid (HB2.out.trans (hb3.mono HB2.out.size))
  clear hA hb3 im m2
  go_wp2_with (at_builtin; refine wpList_app _ rfl (.const (.slice none 0 0)) (.tmp 21) 22 rfl w3.heap.size 5 i0 _ 1 Try.underlying22 hi hz0 hz1 hz2 rfl (.slice none 0 0) [] rfl (Own.nil _ _ _) (some ⟨b, 0, none⟩) n n _ rfl hR H1.out (by simp [maxLen]; omega) (by simp; omega) (Nat.le_refl _) ?_)
  intro v4 w4 hO4 hg4 _
  obtain ⟨A4, c4, hv4, hR4, hc4⟩ := hO4.form
  try simp only [List.nil_append] at hv4 hR4 hc4
  rw [HBL.out] at hv4 hR4 hc4
  subst hv4
  have HR4 := hid hR4
  have HB4 := hid (show Below w.heap.size w w4 from HB3.out.trans (((Below.refl _ _).grown hg4 (Nat.le_refl _) (by simp [Value.ownBlock])).mono HB3.out.size))
  clear hO4 hg4 hR4 hR
  go_wp2_with fail
  go_ret2
  exact ⟨A4, c4, rfl, hc4, HR4.out, HB4.out⟩
theorem pxSame (A B : Option Addr) (n c d : Nat) (px : Nat → Nat) (w : World) (hn : 1 ≤ n) (hA : Rd w A n (bytesOf n px)) (hB : Rd w B n (bytesOf n px)) :
    Calls Try.prog 9 #[.slice A n c, .slice B n d] w fun e w' => e = .returned (.bool true) ∧ w = w' := by
  obtain ⟨b1, o1, rfl, _, h1⟩ := hA.2 (by omega)
  obtain ⟨b2, o2, rfl, _, h2⟩ := hB.2 (by omega)
  have hl := bytesOf_length n px
  have hl2 : ((List.range n).map fun k => ((px k : Nat) : Int)).length = n := by simp
  have k1 : ∀ i, i < n → w.cell? ⟨b1, o1 + i, none⟩ = some (.int .u8 (((List.range n).map fun k => ((px k : Nat) : Int)).getD i 0)) := fun i hi => by
    rw [h1 i (by rw [hl]; exact hi)]
    simp [bytesOf, List.getD, List.getElem?_range hi]
  have k2 : ∀ i, i < n → w.cell? ⟨b2, o2 + i, none⟩ = some (.int .u8 (((List.range n).map fun k => ((px k : Nat) : Int)).getD i 0)) := fun i hi => by
    rw [h2 i (by rw [hl]; exact hi)]
    simp [bytesOf, List.getD, List.getElem?_range hi]
  have c1 := run_convert_bytes_arg (P := Try.prog) w 22 5 Try.underlying22 Try.underlying5 b1 o1 n c _ hl2 k1 9 Try.underlying9
  have c2 := run_convert_bytes_arg (P := Try.prog) w 22 5 Try.underlying22 Try.underlying5 b2 o2 n d _ hl2 k2 9 Try.underlying9
  generalize strOfNums _ = s at *
  clear h1 h2 k1 k2 hA hB hl hl2
  go_enter Try.func9, Try.ntmps9
  go_wp2
  go_ret
  exact ⟨by simp, rfl⟩
end Go.Proofs.Ytkonepeejhgloaa
