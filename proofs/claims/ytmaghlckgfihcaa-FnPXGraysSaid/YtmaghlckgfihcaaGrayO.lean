/- FnPXGrays: the thin function. -/
import Derived.Test.YtmaghlckgfihcaaGray
namespace Go.Proofs.Ytmaghlckgfihcaa
open Go.RowKit
set_option linter.unusedVariables false

theorem grays_one (l : List Nat) : ∀ u ∈ grays l, u.oneCell' = true := by
  intro u hu
  obtain ⟨b, _, rfl⟩ := List.mem_map.1 hu
  rfl
/-- Grays are handed back, and true. -/
def GrOut (n : Nat) (px : List Nat) (w : World) (e : Ending) (w' : World) : Prop :=
  ∃ A c, e = .returned (.tuple #[.slice A n c, .bool true]) ∧ n ≤ c ∧ Rd w' A n (grays px) ∧ Below w.heap.size w w'

theorem metA (a : Addr) (w : World) : (method 224 83 (.pointer (some a)) "GetMatrix").run Try.prog w = .ok (77, .pointer (some a)) w := by kernel_rfl

set_option maxRecDepth 20000 in
set_option maxHeartbeats 2000000 in
theorem grayOf (wd h n : Nat) (A : Option Addr) (c : Nat) (px : List Nat) (w : World) (hn : Hid (n = wd * h)) (hw1 : 1 ≤ wd) (hh1 : 1 ≤ h) (hw : wd ≤ 60) (hh : h ≤ 60) (hn1 : 1 ≤ n) (hn2 : n ≤ 3600) (hR : Rd w A n (ints px)) (hp : ∀ k, k < n → px.getD k 0 < 16777216) :
    Calls Try.prog 19 #[.int .i64 wd, .int .i64 h, .slice A n c] w (GrOut n px w) := by
  obtain ⟨i0, hi, hz0, hz1, hz2⟩ := info_parts info3
  obtain ⟨i5, hi5, hz50, hz51, hz52⟩ := info_parts info5
  have hl : px.length = n := by have := hR.1; simpa [ints] using this
  have HL := hid hl
  have hq : n / wd = h := by rw [hn.out, Nat.mul_div_cancel_left _ (by omega)]
  have hr : n % wd = 0 := by rw [hn.out, Nat.mul_mod_right]
  have fy := fits_yes wd h n w hw1 hh1 hn2 hw hh hq hr
  have HP := hid hp
  have hlen : (ints px).length = n := by rw [ints_length, hl]
  clear hq hr hp hl
  go_enter Try.func19, Try.ntmps19
  go_wp2_with fail
  refine fy.mono ?_
  rintro e w0 ⟨rfl, rfl⟩
  clear fy
  go_wp2_with (at_builtin; refine wpList_app _ rfl (.const (.slice none 0 0)) (.tmp 16) 26 rfl w.heap.size 3 i0 _ 8 Try.underlying26 hi hz0 hz1 hz2 rfl (.slice none 0 0) [] rfl (Own.nil _ _ _) A n c (ints px) rfl hR (ints_one _) (by simp [maxLen]; omega) (by simp; omega) (Nat.le_refl _) ?_)
  intro v w1 hO hg _
  obtain ⟨A', c', hv, hR', hc'⟩ := hO.form
  have hl2 : ([] ++ ints px).length = n := by simp [ints_length, HL.out]
  simp only [List.nil_append] at hv hR' hc' hl2
  rw [hl2] at hv hR' hc'
  subst hv
  have HB := hid (show Below w.heap.size w w1 from (Below.refl _ _).grown hg (Nat.le_refl _) (by simp [Value.ownBlock]))
  have nr := newRGB wd h n A' c' px w1 hn hw1 hh1 hw hh hn1 hn2 hR' HP.out
  clear hO hg hR hR' hl2 hlen hi hz0 hz1 hz2
  go_wp2_with fail
  refine nr.mono ?_
  rintro e w2 ⟨q, b, rfl, hA, hG, hb⟩
  have HA := hid hA
  have HG := hid hG
  have HB2 := hid (HB.out.trans (hb.mono HB.out.size))
  clear hA hG hb nr HB
  have gm := getM q b wd h n w2 HA.out
  have hm := metA ⟨q, 0, none⟩
  have hgl : (grays px).length = n := by simp [grays, HL.out]
  have RB := Rd.of_arr HG.out
  rw [hgl] at RB
  go_wp2_with (first
    | (go_at_call 77; ((with_reducible refine gm.mono ?_); rintro e w3 ⟨rfl, rfl⟩))
    | (at_builtin; refine wpList_app _ rfl (.const (.slice none 0 0)) (.tmp 19) 41 rfl w2.heap.size 5 i5 _ 1 Try.underlying41 hi5 hz50 hz51 hz52 rfl (.slice none 0 0) [] rfl (Own.nil _ _ _) (some ⟨b, 0, none⟩) n n (grays px) rfl RB (grays_one _) (by simp [maxLen]; omega) (by simp; omega) (Nat.le_refl _) ?_))
  intro v4 w4 hO4 hg4 _
  obtain ⟨A4, c4, hv4, hR4, hc4⟩ := hO4.form
  rw [hgl] at hv4 hR4 hc4
  subst hv4
  have HR4 := hid hR4
  have HB4 := hid (show Below w.heap.size w w4 from HB2.out.trans (((Below.refl _ _).grown hg4 (Nat.le_refl _) (by simp [Value.ownBlock])).mono HB2.out.size))
  clear hO4 hg4 hR4 RB hgl gm hm
  go_wp2_with fail
  go_ret2
  exact ⟨A4, c4, rfl, hc4, HR4.out, HB4.out⟩
end Go.Proofs.Ytmaghlckgfihcaa
