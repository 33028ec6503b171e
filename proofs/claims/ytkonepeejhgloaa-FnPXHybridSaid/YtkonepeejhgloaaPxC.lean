/- impl.source and what it calls; GetMatrix: the walks. -/
import Derived.Test.YtkonepeejhgloaaPxB
namespace Go.Proofs.Ytkonepeejhgloaa
open Go.RowKit
set_option linter.unusedVariables false
theorem fits_yes (wd h n : Nat) (w : World) (hw : 1 ≤ wd) (hh : 1 ≤ h) (hn : n ≤ 3600) (hw2 : wd ≤ 60) (hh2 : h ≤ 60) (hq : n / wd = h) (hr : n % wd = 0) :
    Calls Try.prog 26 #[.int .i64 wd, .int .i64 h, .int .i64 n] w fun e w' => e = .returned (.bool true) ∧ w = w' := by
  have h1 : (0 : Int) < (wd : Int) := by omega
  have h2 : (0 : Int) < (h : Int) := by omega
  have h3 : (n : Int) / (wd : Int) = (h : Int) := by rw [← hq]; exact (Int.natCast_ediv _ _).symm
  have h4 : (n : Int) % (wd : Int) = 0 := by rw [show (0 : Int) = ((n % wd : Nat) : Int) by rw [hr]; rfl]; exact (Int.natCast_emod _ _).symm
  clear hq hr
  go_enter Try.func26, Try.ntmps26
  go_wp2
  go_ret
  exact ⟨rfl, rfl⟩
def SrcOut (wd h n : Nat) (px : Nat → Nat) (w : World) (e : Ending) (w' : World) : Prop :=
  ∃ q g cap, e = .returned (.tuple #[.iface 78 (.pointer (some ⟨q, 0, none⟩)), .nilIface]) ∧ OwnB w' w.heap.size g n cap px ∧ Plan w' q g wd h n cap ∧ Below w.heap.size w w'
/-- The source over a slice of its own: as it is, or turned over. -/
theorem newPlanarF (B g wd h n cap : Nat) (px : Nat → Nat) (w : World) (hO : OwnB w B g n cap px) (hw2 : wd ≤ 60) (hh2 : h ≤ 60) :
    Calls Try.prog 27 #[.slice (some ⟨g, 0, none⟩) n cap, .int .i64 wd, .int .i64 h, .int .i64 0, .int .i64 0, .int .i64 wd, .int .i64 h, .bool false] w fun e w' =>
      e = .returned (.tuple #[.iface 78 (.pointer (some ⟨w.heap.size, 0, none⟩)), .nilIface]) ∧ OwnB w' B g n cap px ∧ Plan w' w.heap.size g wd h n cap ∧ Below w.heap.size w w' := by
  have P := hid (Arr.of_new w 82 #[.int .i64 wd, .int .i64 h, .slice (some ⟨g, 0, none⟩) n cap, .int .i64 wd, .int .i64 h, .int .i64 0, .int .i64 0])
  have HB := hid ((Below.refl w.heap.size w).alloc (Nat.le_refl _) (.cells #[.int .i64 wd, .int .i64 h, .slice (some ⟨g, 0, none⟩) n cap, .int .i64 wd, .int .i64 h, .int .i64 0, .int .i64 0] 82))
  have HO := hid (hO.below HB.out hO.lt)
  clear hO
  go_enter Try.func27, Try.ntmps27
  go_wp2_with fail
  go_ret2
  exact ⟨rfl, HO.out, P.out, HB.out⟩
set_option maxRecDepth 20000 in
set_option maxHeartbeats 2000000 in
theorem newPlanarT (B g wd h n cap : Nat) (px : Nat → Nat) (w : World) (hO : OwnB w B g n cap px) (hBg : B ≤ g) (hBs : B ≤ w.heap.size) (hw1 : 1 ≤ wd) (hw2 : wd ≤ 60) (hh2 : h ≤ 60) (hn : n = wd * h) (hpx : ∀ k, px k < 256) :
    Calls Try.prog 27 #[.slice (some ⟨g, 0, none⟩) n cap, .int .i64 wd, .int .i64 h, .int .i64 0, .int .i64 0, .int .i64 wd, .int .i64 h, .bool true] w fun e w' =>
      e = .returned (.tuple #[.iface 78 (.pointer (some ⟨w.heap.size, 0, none⟩)), .nilIface]) ∧ OwnB w' B g n cap (fun k => px (mir wd k)) ∧ Plan w' w.heap.size g wd h n cap ∧ Below B w w' := by
  have P := hid (Arr.of_new w 82 #[.int .i64 wd, .int .i64 h, .slice (some ⟨g, 0, none⟩) n cap, .int .i64 wd, .int .i64 h, .int .i64 0, .int .i64 0])
  have HB := hid ((Below.refl w.heap.size w).alloc (Nat.le_refl _) (.cells #[.int .i64 wd, .int .i64 h, .slice (some ⟨g, 0, none⟩) n cap, .int .i64 wd, .int .i64 h, .int .i64 0, .int .i64 0] 82))
  have HO := hid (hO.below HB.out hO.lt)
  have hgl := hO.lt
  have rv := reverse B B w.heap.size g wd h n cap px _ P.out HO.out (by omega) hBg (by simp; omega) hw1 hw2 hh2 hn hpx
  have HBB := hid ((Below.refl B w).alloc hBs (.cells #[.int .i64 wd, .int .i64 h, .slice (some ⟨g, 0, none⟩) n cap, .int .i64 wd, .int .i64 h, .int .i64 0, .int .i64 0] 82))
  clear hO hn hpx
  go_enter Try.func27, Try.ntmps27
  go_wp2_with fail
  refine rv.mono ?_
  rintro e w1 ⟨rfl, h1, h2, h3⟩
  have H1 := hid h1
  have H2 := hid h2
  have H3 := hid (HBB.out.trans h3)
  clear h1 h2 h3 rv
  go_wp2_with fail
  go_ret2
  exact ⟨rfl, H1.out, H2.out, H3.out⟩
/-- impl.source's answer. -/
def SourceOut (wd h n : Nat) (px : Nat → Nat) (w : World) (e : Ending) (w' : World) : Prop :=
  ∃ q g cap, e = .returned (.tuple #[.iface 78 (.pointer (some ⟨q, 0, none⟩)), .bool true]) ∧ OwnB w' w.heap.size g n cap px ∧ Plan w' q g wd h n cap ∧ n ≤ cap ∧ Below w.heap.size w w'
set_option maxRecDepth 20000 in
set_option maxHeartbeats 4000000 in
theorem source (wd h n c : Nat) (A : Option Addr) (px : Nat → Nat) (mi : Bool) (w : World) (hR : Rd w A n (bytesOf n px)) (hw1 : 1 ≤ wd) (hw2 : wd ≤ 60) (hh1 : 1 ≤ h) (hh2 : h ≤ 60) (hn : n = wd * h) (hpx : ∀ k, px k < 256) :
    Calls Try.prog 20 #[.int .i64 wd, .int .i64 h, .slice A n c, .bool mi] w (SourceOut wd h n (fun k => if mi then px (mir wd k) else px k) w) := by
  obtain ⟨i0, hi, hz0, hz1, hz2⟩ := info_parts info5
  have hnb : n ≤ 60 * 60 := by rw [hn]; exact Nat.mul_le_mul hw2 hh2
  have hn1 : 1 * 1 ≤ n := by rw [hn]; exact Nat.mul_le_mul hw1 hh1
  have fy := fits_yes wd h n w hw1 hh1 (by omega) hw2 hh2 (by rw [hn, Nat.mul_div_cancel_left _ (by omega)]) (by rw [hn, Nat.mul_mod_right])
  have HN := hid hn
  have HPX := hid hpx
  have hbl := bytesOf_length n px
  have h1 := bytes_one n px
  have H1 := hid h1
  have HBL := hid hbl
  clear hn hpx h1 hbl
  go_enter Try.func20, Try.ntmps20
  go_wp2_with fail
  refine fy.mono ?_
  rintro e w0 ⟨rfl, rfl⟩
  clear fy
  go_wp2_with (at_builtin; refine wpList_app _ rfl (.const (.slice none 0 0)) (.tmp 19) 22 rfl w.heap.size 5 i0 _ 1 Try.underlying22 hi hz0 hz1 hz2 rfl (.slice none 0 0) [] rfl (Own.nil _ _ _) A n c (bytesOf n px) rfl hR H1.out (by simp [maxLen]; omega) (by simp; omega) (Nat.le_refl _) ?_)
  intro v w1 hO hg _
  try simp only [List.nil_append] at hO
  have hOr : w1.ownsRow w.heap.size 5 1 v n (bytesOf n px) := by have := hO; unfold Own at this; rwa [HBL.out] at this
  obtain ⟨g, cap, rfl, hBg, hcap⟩ : ∃ g cap, v = .slice (some ⟨g, 0, none⟩) n cap ∧ w.heap.size ≤ g ∧ n ≤ cap := by
    rcases hOr.2 with ⟨_, h0⟩ | ⟨g, cap, cur, hv, hb, _, hc, _⟩
    · omega
    · exact ⟨g, cap, hv, hb, hc⟩
  have HB := hid (show Below w.heap.size w w1 from (Below.refl _ _).grown hg (Nat.le_refl _) (by simp [Value.ownBlock]))
  have HO : Hid (OwnB w1 w.heap.size g n cap px) := hid hOr
  clear hO hg hOr hR hi hz0 hz1 hz2
  cases mi
  · have np := newPlanarF w.heap.size g wd h n cap px w1 HO.out hw2 hh2
    go_wp2_with fail
    refine np.mono ?_
    clear np
    rintro e w2 ⟨rfl, h1, h2, h3⟩
    have H1 := hid h1
    have H2 := hid h2
    have H3 := hid (HB.out.trans (h3.mono HB.out.size))
    clear h1 h2 h3
    go_wp2_with fail
    go_quiet (fail)
    go_wp2_with fail
    go_ret2
    exact ⟨_, g, cap, rfl, H1.out, H2.out, hcap, below_drewN H3.out _⟩
  · have np := newPlanarT w.heap.size g wd h n cap px w1 HO.out hBg HB.out.size hw1 hw2 hh2 HN.out HPX.out
    go_wp2_with fail
    refine np.mono ?_
    clear np
    rintro e w2 ⟨rfl, h1, h2, h3⟩
    have H1 := hid h1
    have H2 := hid h2
    have H3 := hid (HB.out.trans h3)
    clear h1 h2 h3
    go_wp2_with fail
    go_quiet (fail)
    go_wp2_with fail
    go_ret2
    exact ⟨_, g, cap, rfl, H1.out, H2.out, hcap, below_drewN H3.out _⟩
end Go.Proofs.Ytkonepeejhgloaa
