/- impl.ArrayRun: an array put to another one twice. -/
import Derived.Test.YtmaghlckgfihcaaRunW
namespace Go.Proofs.Ytmaghlckgfihcaa
open Go.RowKit
set_option linter.unusedVariables false

theorem IsBA.grown {w w' : World} {q g n nw : Nat} {ws : List Nat} {B : Nat → Bool} {row : Option Nat} (h : IsBA w q g n nw ws B) (hg : w.grownBy w' row) (h1 : some q ≠ row) (h2 : some g ≠ row) : IsBA w' q g n nw ws B :=
  ⟨h.st.grown hg h1, h.bits.grown hg h2, h.sh, h.ne, h.wr, h.rw_⟩
/-- What the array holds behind step i. -/
def xorAt (B B2 : Nat → Bool) (i : Nat) : Nat → Bool := fun x => if i % 2 = 1 then (B x != B2 x) else B x

set_option maxRecDepth 20000 in
set_option maxHeartbeats 8000000 in
theorem runXor (A A2 : Option Addr) (c c2 n S c1 : Nat) (zs ys : List Bool) (w : World) (hZ : Rd w A n (zs.map Value.bool)) (hY : Rd w A2 n (ys.map Value.bool)) (hn1 : 1 ≤ n) (hn : n ≤ 200) (hS : Arr w S 33 [.int .i64 8, .int .i64 0, .int .i64 0, .slice A2 n c2, .int .i64 8, .int .i64 0, .int .i64 0, .slice A2 n c2]) :
    Calls Try.prog 16 #[.slice A n c, .slice (some ⟨S, 0, none⟩) 2 c1] w (RunOut (firstN (fun i => zs.getD i false) n) n 2 w) := by
  obtain ⟨i4, hi4, hb0, hb1, hb2⟩ := info_of infoBool
  obtain ⟨nw, hnw⟩ : ∃ nw, nw = (n + 31) / 32 := ⟨_, rfl⟩
  have hnw7 : nw ≤ 7 := by omega
  have ar := arrOf A c n nw zs w hZ hn hnw
  have AR2 := hid (fun (W : World) (hW : Below w.heap.size w W) => arrOf A2 c2 n nw ys W (hY.below hW) hn hnw)
  have hSl := hS.lt
  have HS := hid hS
  clear hZ hY hS hnw
  generalize (fun i => zs.getD i false) = B at *
  generalize (fun i => ys.getD i false) = B2 at *
  go_enter Try.func16, Try.ntmps16
  go_wp2_with fail
  refine ar.mono ?_
  rintro e w1 ⟨q, g, ws, rfl, hg, hq, hM, hb1'⟩
  have hgl : g < w1.heap.size := hM.bits.lt
  have hql : q < w1.heap.size := hM.st.lt
  have HM := hid hM
  have HB1 := hid hb1'
  clear ar hM hb1'
  go_wp2_with fail
  go_loopw [7, 15] (fun fv iv wr => ∃ (i : Nat) (ws : List Nat), i ≤ 2 ∧ iv = .int .i64 (i : Nat) ∧ Hid (i = 0 → fv = .slice none 0 0) ∧ Own wr w1.heap.size 4 fv (List.replicate i (.bool true)) ∧ IsBA wr q g n nw ws (xorAt B B2 i) ∧ Below w.heap.size w wr ∧ w1.heap.size ≤ wr.heap.size) (fun _ iv _ => 2 - (intOf iv).toNat)
  case atStart => exact ⟨0, ws, by omega, rfl, hid (fun _ => rfl), Own.nil _ _ _, HM.out.congr (fun x _ => by simp [xorAt]), HB1.out, Nat.le_refl _⟩
  case round =>
    clear HM HB1
    obtain ⟨i, ws2, hi, rfl, HF0, hO, hM, hB, hwr1⟩ := hrel
    have HM := hid hM
    have HO := hid hO
    have HB := hid hB
    clear hM hO hB
    by_cases hlt : i < 2
    · have hlt' : (i : Int) < 2 := by omega
      have hS2 := HS.out.below HB.out hSl
      have s0 : wr.cell? ⟨S, i * 4, none⟩ = some (.int .i64 8) := by rcases (show i = 0 ∨ i = 1 by omega) with rfl | rfl <;> exact hS2.cell? _
      have s1 : wr.cell? ⟨S, i * 4 + 1, none⟩ = some (.int .i64 0) := by rcases (show i = 0 ∨ i = 1 by omega) with rfl | rfl <;> exact hS2.cell? _
      have s2 : wr.cell? ⟨S, i * 4 + 2, none⟩ = some (.int .i64 0) := by rcases (show i = 0 ∨ i = 1 by omega) with rfl | rfl <;> exact hS2.cell? _
      have s3 : wr.cell? ⟨S, i * 4 + 3, none⟩ = some (.slice A2 n c2) := by rcases (show i = 0 ∨ i = 1 by omega) with rfl | rfl <;> exact hS2.cell? _
      clear hS2
      have hba : Below wr.heap.size wr (wr.alloc (.cells #[.int .i64 8, .int .i64 0, .int .i64 0, .slice A2 n c2] 33)) := (Below.refl wr.heap.size wr).alloc (Nat.le_refl _) _
      have HBa := hid (HB.out.alloc HB.out.size (.cells #[.int .i64 8, .int .i64 0, .int .i64 0, .slice A2 n c2] 33))
      have HOa := hid (HO.out.alloc (.cells #[.int .i64 8, .int .i64 0, .int .i64 0, .slice A2 n c2] 33))
      have HBA := hid hba
      have hsa : (wr.alloc (.cells #[.int .i64 8, .int .i64 0, .int .i64 0, .slice A2 n c2] 33)).heap.size = wr.heap.size + 1 := by simp
      have HSA := hid hsa
      have a2 := AR2.out _ HBa.out
      clear hba hsa
      go_wp2_with fail
      refine a2.mono ?_
      rintro e w5 ⟨q2, g2, ws5, rfl, hg2, hq2, hM5, hb5⟩
      rw [HSA.out] at hg2 hq2
      have hMq := (HM.out.below (HBA.out.trans (hb5.mono (by rw [HSA.out]; omega))) (by omega) (by omega))
      have xo := xorArr q g q2 g2 n nw ws2 ws5 (xorAt B B2 i) B2 w5 hMq hM5 (by omega) (by omega) hnw7
      have HB5 := hid (HBa.out.trans (hb5.mono HBa.out.size))
      have HO5 := hid (HOa.out.below hb5 (fun k hk => (HOa.out.lt k hk).2))
      have hs5 := hb5.size
      rw [HSA.out] at hs5
      clear a2 hMq hM5 hb5 s0 s1 s2 s3
      go_wp2_with fail
      refine xo.mono ?_
      rintro e w6 ⟨rfl, ⟨ws6, hM6⟩, ho6, hb6⟩
      have HM6 := hid hM6
      have hlo := HO5.out.lt
      have HO6 := hid (HO5.out.only ho6 (fun e => by have := hlo g e; omega))
      have HB6 := hid (HB5.out.trans (hb6 w.heap.size hg HB5.out.size))
      have hs6 := ho6.1
      have hnq := hid (show some q ≠ u7.ownBlock from fun e => by have := hlo q e.symm; omega)
      have hng := hid (show some g ≠ u7.ownBlock from fun e => by have := hlo g e.symm; omega)
      have hnw0 := hid (show ∀ j, u7.ownBlock = some j → w.heap.size ≤ j from fun j hj => by have := (hlo j hj).1; omega)
      clear xo hM6 ho6 hb6 hlo
      go_wp2_with (at_builtin; (refine wpList_app _ rfl _ _ 22 rfl w1.heap.size 4 i4 _ 1 Try.underlying22 hi4 hb0 hb1 hb2 rfl u7 (List.replicate i (.bool true)) (by rfl) (HO6.out.alloc _) (some ⟨w6.heap.size, 0, none⟩) 1 1 [.bool true] (by rfl) (Rd.one _ _ _) (by simp [Value.oneCell']) (by simp [maxLen]; omega) (by simp; omega) (by simp; omega) ?_))
      intro v7 w7 hO7 hg7 _
      have HO7 := hid (show Own w7 w1.heap.size 4 v7 (List.replicate (i + 1) (.bool true)) from by rw [List.replicate_succ']; exact hO7)
      have hM6a := HM6.out.below ((Below.refl w6.heap.size w6).alloc (Nat.le_refl _) (.cells #[.bool true] 4)) (by omega) (by omega)
      have HM7 := hid ((hM6a.grown hg7 hnq.out hng.out).congr (C := xorAt B B2 (i + 1)) (fun x _ => by
        unfold xorAt
        rcases (show i = 0 ∨ i = 1 by omega) with rfl | rfl
        · simp
        · simp only [Nat.mod_succ, if_true]
          cases B x <;> cases B2 x <;> rfl))
      have HB7 := hid ((HB6.out.alloc HB6.out.size (.cells #[.bool true] 4)).grown hg7 (by have := HB6.out.size; simp; omega) hnw0.out)
      have hs7 := hg7.size
      simp only [World.size_alloc] at hs7
      clear hO7 hg7 hM6a
      go_wp2_with fail
      go_roundw
      case rel => exact ⟨i + 1, ws6, by omega, by go_num, hid (fun h => by omega), HO7.out, HM7.out, HB7.out, by omega⟩
      case measure => simp [intOf]; omega
    · obtain rfl : i = 2 := by omega
      have hM2 := HM.out.congr (C := B) (fun x _ => by simp [xorAt])
      have bo := boolsOf q g n nw ws2 B wr hM2 (by omega) (by omega) hn hnw7
      obtain ⟨A9, c9, hv9, hR9, _⟩ := HO.out.form
      have HR9 := hid hR9
      clear hR9 hM2
      simp only [List.length_replicate] at hv9 HR9
      clear HF0
      subst hv9
      go_wp2_with fail
      refine bo.mono ?_
      rintro e w5 ⟨G, rfl, hG, hl, hX, hb5⟩
      have HX := hid hX
      have HR5 := hid (HR9.out.below hb5)
      have HB5 := hid (HB.out.trans (hb5.mono HB.out.size))
      have HG := hid (Nat.le_trans HB.out.size hG)
      clear bo hX hb5
      go_wp2_with fail
      go_ret2
      exact ⟨G, A9, c9, rfl, HG.out, hl, HX.out, HR5.out, HB5.out⟩
end Go.Proofs.Ytmaghlckgfihcaa
