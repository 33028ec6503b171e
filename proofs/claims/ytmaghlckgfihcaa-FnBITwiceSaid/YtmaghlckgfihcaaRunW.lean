/- impl.ArrayRun with the steps of FnBITwice. -/
import Derived.Test.YtmaghlckgfihcaaTurnW
namespace Go.Proofs.Ytmaghlckgfihcaa
open Go.RowKit
set_option linter.unusedVariables false

/-- The bits then, and that each step was taken. -/
def RunOut (l : List Bool) (n k : Nat) (w : World) (e : Ending) (w' : World) : Prop :=
  ∃ G A c, e = .returned (.tuple #[.slice (some ⟨G, 0, none⟩) n n, .slice A k c]) ∧ w.heap.size ≤ G ∧ l.length = n ∧ Rd w' (some ⟨G, 0, none⟩) n (l.map Value.bool) ∧ Rd w' A k (List.replicate k (.bool true)) ∧ Below w.heap.size w w'

set_option maxRecDepth 20000 in
set_option maxHeartbeats 8000000 in
theorem runRev (A : Option Addr) (c n S c1 : Nat) (zs : List Bool) (w : World) (hZ : Rd w A n (zs.map Value.bool)) (hn1 : 1 ≤ n) (hn : n ≤ 200) (hS : Arr w S 33 [.int .i64 9, .int .i64 0, .int .i64 0, .slice none 0 0]) :
    Calls Try.prog 16 #[.slice A n c, .slice (some ⟨S, 0, none⟩) 1 c1] w (RunOut (firstN (turnB (fun i => zs.getD i false) n) n) n 1 w) := by
  obtain ⟨i4, hi4, hb0, hb1, hb2⟩ := info_of infoBool
  obtain ⟨nw, hnw⟩ : ∃ nw, nw = (n + 31) / 32 := ⟨_, rfl⟩
  have hnw7 : nw ≤ 7 := by omega
  have ar := arrOf A c n nw zs w hZ hn hnw
  have hSl := hS.lt
  have HS := hid hS
  clear hZ hS hnw
  generalize (fun i => zs.getD i false) = B at *
  go_enter Try.func16, Try.ntmps16
  go_wp2_with fail
  refine ar.mono ?_
  rintro e w1 ⟨q, g, ws, rfl, hg, hq, hM, hb1'⟩
  have hgl : g < w1.heap.size := hM.bits.lt
  have hql : q < w1.heap.size := hM.st.lt
  have HM := hid hM
  have HB1 := hid hb1'
  clear ar hM hb1'
  go_wp2_with fail
  go_loopw [7, 15] (fun fv iv wr => ∃ (i : Nat) (g : Nat) (ws : List Nat), i ≤ 1 ∧ iv = .int .i64 (i : Nat) ∧ (i = 0 → fv = .slice none 0 0) ∧ Own wr w1.heap.size 4 fv (List.replicate i (.bool true)) ∧ g < wr.heap.size ∧ q < wr.heap.size ∧ IsBA wr q g n nw ws (if i = 0 then B else turnB B n) ∧ Below w.heap.size w wr ∧ w1.heap.size ≤ wr.heap.size) (fun _ iv _ => 1 - (intOf iv).toNat)
  case atStart => exact ⟨0, g, ws, by omega, rfl, fun _ => rfl, Own.nil _ _ _, hgl, hql, HM.out, HB1.out, Nat.le_refl _⟩
  case round =>
    clear HM HB1
    obtain ⟨i, g2, ws2, hi, rfl, hf0, hO, hg2, hq2, hM, hB, hwr1⟩ := hrel
    have HM := hid hM
    have HO := hid hO
    have HB := hid hB
    clear hM hO hB
    by_cases hlt : i < 1
    · obtain rfl : i = 0 := by omega
      have HF0 := hid (hf0 rfl)
      clear hf0
      have hS2 := HS.out.below HB.out hSl
      have s0 : wr.cell? ⟨S, 0, none⟩ = some (.int .i64 9) := hS2.cell? 0
      have s1 : wr.cell? ⟨S, 1, none⟩ = some (.int .i64 0) := hS2.cell? 1
      have s2 : wr.cell? ⟨S, 2, none⟩ = some (.int .i64 0) := hS2.cell? 2
      have s3 : wr.cell? ⟨S, 3, none⟩ = some (.slice none 0 0) := hS2.cell? 3
      clear hS2
      have hMa := HM.out.below ((Below.refl wr.heap.size wr).alloc (Nat.le_refl _) (.cells #[.int .i64 9, .int .i64 0, .int .i64 0, .slice none 0 0] 33)) hq2 hg2
      rw [if_pos rfl] at hMa
      have HBa := hid (HB.out.alloc HB.out.size (.cells #[.int .i64 9, .int .i64 0, .int .i64 0, .slice none 0 0] 33))
      have rv := reverseArr q g2 n nw ws2 B _ hMa (by simp; omega) hn1 hn hnw7
      clear hMa
      go_wp2_with fail
      refine rv.mono ?_
      rintro e w5 ⟨rfl, ⟨g3, ws3, hg3, hM3⟩, hb5⟩
      have hq3 : q < w5.heap.size := hM3.st.lt
      have HM3 := hid hM3
      have HB5 := hid (HBa.out.trans (hb5 w.heap.size hq HBa.out.size))
      have hw15 : w1.heap.size ≤ w5.heap.size := Nat.le_trans hwr1 (Nat.le_trans (by simp) (hb5 0 (Nat.zero_le _) (Nat.zero_le _)).size)
      clear rv hM3 hb5 s0 s1 s2 s3
      go_wp2_with (at_builtin; (refine wpList_app _ rfl _ _ 22 rfl w1.heap.size 4 i4 _ 1 Try.underlying22 hi4 hb0 hb1 hb2 rfl u7 [] (by rfl) (by rw [HF0.out]; exact Own.nil _ _ _) (some ⟨w5.heap.size, 0, none⟩) 1 1 [.bool true] (by rfl) (Rd.one _ _ _) (by simp [Value.oneCell']) (by simp [maxLen]) (by simp) (by simp; omega) ?_))
      intro v6 w6 hO6 hg6 _
      rw [HF0.out] at hg6
      have HO6 := hid hO6
      have hb56 : Below w5.heap.size w5 w6 := ((Below.refl w5.heap.size w5).alloc (Nat.le_refl _) (.cells #[.bool true] 4)).grown hg6 (by simp) (fun j hj => by simp [Value.ownBlock] at hj)
      have HM6 := hid (HM3.out.below hb56 hq3 hg3)
      have HB6 := hid (HB5.out.trans (hb56.mono HB5.out.size))
      have hs6 := hb56.size
      clear hO6 hg6 hb56
      go_wp2_with fail
      go_roundw
      case rel => exact ⟨1, g3, ws3, by omega, rfl, fun h => by omega, HO6.out, by omega, by omega, by rw [if_neg (by omega)]; exact HM6.out, HB6.out, by omega⟩
      case measure => simp [intOf]
    · obtain rfl : i = 1 := by omega
      have hM2 := HM.out
      rw [if_neg (by omega)] at hM2
      have bo := boolsOf q g2 n nw ws2 (turnB B n) wr hM2 hq2 hg2 hn hnw7
      obtain ⟨A9, c9, hv9, hR9, _⟩ := HO.out.form
      have HR9 := hid hR9
      clear hR9 hM2 hf0
      simp only [List.length_replicate] at hv9 HR9
      subst hv9
      go_wp2_with fail
      refine bo.mono ?_
      rintro e w5 ⟨G, rfl, hG, hl, hX, hb5⟩
      have HX := hid hX
      have HR5 := hid (HR9.out.below hb5)
      have HB5 := hid (HB.out.trans (hb5.mono HB.out.size))
      have HG := hid (Nat.le_trans HB.out.size hG)
      clear bo hX hb5
      go_wp2_with fail
      go_ret2
      exact ⟨G, A9, c9, rfl, HG.out, hl, HX.out, HR5.out, HB5.out⟩
end Go.Proofs.Ytmaghlckgfihcaa
