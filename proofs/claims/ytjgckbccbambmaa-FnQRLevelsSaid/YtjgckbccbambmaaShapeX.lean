import Derived.Test.YtjgckbccbambmaaShapeW
namespace Go.Proofs.Ytjgckbccbambmaa
open Go.RowKit
set_option linter.unusedVariables false

theorem results_tmp6 {fn : Func} {a b c d e f : Tmp} (h : fn.results = #[.tmp a, .tmp b, .tmp c, .tmp d, .tmp e, .tmp f]) (tmps : Array Value) (P : Program) (w : World) :
    (results fn tmps).run P w = .ok (.tuple #[tmps.getD a undef, tmps.getD b undef, tmps.getD c undef, tmps.getD d undef, tmps.getD e undef, tmps.getD f undef]) w := by
  simp [results, h]
/-- What is told of a level of a version. -/
def ShapeOut (v l : Nat) (w : World) (e : Ending) (w' : World) : Prop :=
  ∃ (z1 z2 z4 : Int) (sc : Value) (A : Option Addr) (c : Nat), e = .returned (.tuple #[.int .i64 z1, .int .i64 z2, sc, .int .i64 z4, .slice A ((vrow v).lv (lvAt l)).2.length c, .bool true]) ∧
    Rd2 w' A ((vrow v).lv (lvAt l)).2.length (flatB ((vrow v).lv (lvAt l)).2) ∧ Below w.heap.size w w'

set_option maxRecDepth 20000 in
set_option maxHeartbeats 8000000 in
theorem shape (v l : Nat) (h1 : 1 ≤ v) (h2 : v ≤ 40) (hl : l < 4) (w : World) (hc : (vrow v).1.length ≤ 7) (hk2 : ((vrow v).lv (lvAt l)).2.length ≤ 2) :
    Calls Try.prog 8 #[.int .i64 v, .int .i64 l] w (ShapeOut v l w) := by
  have gv := getVer v h1 h2 w
  unfold ShapeOut
  generalize vrow v = T at *
  obtain ⟨i8, hi8, hz0, hz1, hz2⟩ := info_of2 info28
  obtain ⟨j, hj⟩ : ∃ j, j = lvAt l := ⟨_, rfl⟩
  have hj4 : j < 4 := by rw [hj]; unfold lvAt; split <;> (try split) <;> (try split) <;> omega
  have LV := fun q E w h => levelOf q E l hl w h
  rw [← hj] at LV hk2 ⊢
  clear hj
  have LVH := hid LV
  clear LV
  obtain ⟨L, hL⟩ : ∃ L, L = (T.lv j).2 := ⟨_, rfl⟩
  rw [← hL] at hk2 ⊢
  obtain ⟨k, hk⟩ : ∃ k, k = L.length := ⟨_, rfl⟩
  rw [← hk] at hk2 ⊢
  have HL := hid hL
  have HK := hid hk
  clear hk hL
  go_enter Try.func8, Try.ntmps8
  go_wp2_with fail
  refine gv.mono ?_
  rintro e w1 ⟨q, rfl, hI, hb1⟩
  obtain ⟨C, E, z, hQ, hC, hE⟩ := hI
  obtain ⟨B, hE0, hE1, hB⟩ := hE j hj4
  rw [← HL.out] at hE1 hB
  rw [← HK.out] at hE1
  have q2 : w1.cell? ⟨q, 2, none⟩ = some (.slice (some ⟨E, 0, none⟩) 4 4) := hQ.cell? 2
  have hEl : E < w1.heap.size := by
    unfold World.cell? at hE0
    rcases Nat.lt_or_ge E w1.heap.size with h | h
    · exact h
    · simp [Array.getElem?_eq_none h] at hE0
  have hQl := hQ.lt
  have hCl := hC.lt
  have hBl := hB.lt
  have lv := LVH.out q E w1 q2
  have eb := ecBlocks E (2 * j) _ _ _ w1 hE1
  have HQ := hid hQ
  have HC := hid hC
  have HBk := hid hB
  have HB1 := hid hb1
  have HE0 := hid hE0
  clear gv LVH hE hQ hC hB hb1 hE1 hE0 q2
  generalize ((T.lv j).1 : Int) = x0 at *
  go_wp2_with fail
  refine lv.mono ?_
  rintro e w2 ⟨rfl, rfl⟩
  clear lv
  go_wp2_with fail
  refine eb.mono ?_
  rintro e w2 ⟨rfl, rfl⟩
  clear eb
  go_wp2_with fail
  go_loopw [13, 29] (fun sv iv wr => ∃ i : Nat, i ≤ k ∧ iv = .int .i64 (i : Nat) ∧ Own2 wr w1.heap.size sv i (flatB (L.take i)) ∧ Below w1.heap.size w1 wr) (fun _ iv _ => k - (intOf iv).toNat)
  case atStart => exact ⟨0, by omega, rfl, Own2.nil _ _, Below.refl _ _⟩
  case round =>
    obtain ⟨i, hi, rfl, hO, hb⟩ := hrel
    have HO := hid hO
    have HB := hid hb
    have hsz := hb.size
    clear hO hb
    by_cases hlt : i < k
    · have hlt' : (i : Int) < (k : Int) := by omega
      have hA := HBk.out.below HB.out hBl
      have c0 := (hA.cell? (i * 2)).trans (flatB_at L i (by rw [← HK.out]; exact hlt)).1
      have c1 := (hA.cell? (i * 2 + 1)).trans (flatB_at L i (by rw [← HK.out]; exact hlt)).2
      have HS := hid (flatB_succ L i (by rw [← HK.out]; exact hlt))
      have hbl2 : B < wr.heap.size := by omega
      clear hA
      generalize ((L.getD i (0, 0)).1 : Int) = n1 at *
      generalize ((L.getD i (0, 0)).2 : Int) = n2 at *
      have g1 := fun W => getCount n1 n2 W
      have g2 := fun W => getData n1 n2 W
      go_wp2_with fail
      have nwr : some wr.heap.size ≠ u13.ownBlock := fun e => by have := HO.out.lt _ e.symm; omega
      have d0 := (Arr.of_new wr 60 #[.int .i64 n1, .int .i64 n2]).cell? 0
      have d1 := (Arr.of_new wr 60 #[.int .i64 n1, .int .i64 n2]).cell? 1
      have d2 : wr.heap.size < (wr.alloc (.cells #[.int .i64 n1, .int .i64 n2] 60)).heap.size := by simp
      go_region_held3 (fun w' => w'.cell? ⟨wr.heap.size, 0, none⟩ = some (.int .i64 n1) ∧ w'.cell? ⟨wr.heap.size, 1, none⟩ = some (.int .i64 n2) ∧ wr.heap.size < w'.heap.size)
        (first | exact ⟨d0, d1, d2⟩ | exact keep2_alloc (by assumption) _ | exact keep2_alloc ⟨d0, d1, d2⟩ _ | exact keep2_grown (by assumption) hg6 nwr)
        (first
        | (go_at_call 26; ((with_reducible refine (g1 _).mono ?_); rintro e w5 ⟨rfl, rfl⟩))
        | (go_at_call 27; ((with_reducible refine (g2 _).mono ?_); rintro e w5 ⟨rfl, rfl⟩))
        | (refine step_app2 _ (by rfl) _ _ 24 (by rfl) w1.heap.size i8 _ 16 Try.underlying24 hi8 hz0 hz1 hz2 (by rfl) u13 i (flatB (L.take i)) (by rfl) (by repeat (first | exact HO.out | with_reducible apply Own2.alloc | with_reducible apply Own2.drew | with_reducible apply Own2.drewN)) ⟨wr.heap.size + 1 + 1 + 1, 0, none⟩ 1 [.int .i64 n1, .int .i64 n2] (by rfl) rfl (cell_two_at _ _ _ _ _ (by simp)) (by simp [Value.oneCell']) (by unfold maxLen; omega) (by omega) (by simp; omega) ?_; intro v6 w6 hO6 hg6))
      all_goals (
        have hb1 := HB.out.alloc hsz (.cells #[.int .i64 n1, .int .i64 n2] 60)
        have hb2 := hb1.alloc (by simp; omega) (.cells #[.int .i64 n1, .int .i64 n2] 60)
        have hb3 := hb2.alloc (by simp; omega) (.cells #[.int .i64 n1, .int .i64 n2] 60)
        have hb4 := below_drewN (hb3.alloc (by simp; omega) (.cells #[.int .i64 n1, .int .i64 n2] 28)) 1
        have hb6 : Below w1.heap.size w1 w6 := hb4.grown hg6 (by simp; omega) (fun j' hj' => (HO.out.lt j' hj').1)
        have hO7 : Own2 w6 w1.heap.size v6 (i + 1) (flatB (L.take (i + 1))) := by rw [← HS.out]; exact hO6
        clear hb1 hb2 hb3 hb4
        go_wp2
        go_roundw
        case rel => exact ⟨i + 1, by omega, by go_num, hO7, hb6⟩
        case measure => simp [intOf]; omega)
    · obtain rfl : i = k := by omega
      have hlt' : ¬ (i : Int) < (i : Int) := by omega
      have hT : L.take i = L := List.take_of_length_le (by rw [← HK.out]; omega)
      rw [hT] at HO
      obtain ⟨A9, c9, hv9, hR9⟩ := HO.out.form
      subst hv9
      have HR := hid hR9
      have hQ2 := HQ.out.below HB.out hQl
      have q0 : wr.cell? ⟨q, 0, none⟩ = some (.int .i64 v) := hQ2.cell? 0
      have q1 : wr.cell? ⟨q, 1, none⟩ = some (.slice (some ⟨C, 0, none⟩) T.1.length T.1.length) := hQ2.cell? 1
      have q3 : wr.cell? ⟨q, 3, none⟩ = some (.int .i64 z) := hQ2.cell? 3
      have dm := dimOf q v h2 wr q0
      have tt := totalOf q z wr q3
      have ce := centersOf q _ _ _ wr q1
      have e0 := (HB.out.cell (p := ⟨E, 2 * j, none⟩) hEl).trans HE0.out
      have hCC := Rd.of_arr (HC.out.below HB.out hCl)
      rw [List.length_map] at hCC
      have HCC := hid hCC
      obtain ⟨i3, hi3, hy0, hy1, hy2⟩ := info_of1 info3
      have HON := hid (Own.nil wr w1.heap.size 3)
      have EW := hid (fun W h => ecWords E (2 * j) x0 W h)
      have HE1 := hid e0
      clear hR9 hQ2 q0 q1 q3 hCC e0 HBk HE0 HO
      generalize T.1.length = m at *
      go_wp2_with fail
      refine dm.mono ?_
      rintro e w2 ⟨⟨z9, rfl⟩, rfl⟩
      go_wp2_with fail
      refine tt.mono ?_
      rintro e w2 ⟨rfl, rfl⟩
      go_wp2_with fail
      refine ce.mono ?_
      rintro e w2 ⟨rfl, rfl⟩
      clear dm tt ce
      go_wp2_with (at_builtin; (refine wpList_app _ rfl _ _ 23 rfl w1.heap.size 3 i3 _ 8 Try.underlying23 hi3 hy0 hy1 hy2 rfl (.slice none 0 0) [] (by rfl) HON.out (some ⟨C, 0, none⟩) m m (T.1.map fun (x : Nat) => Value.int .i64 x) (by rfl) HCC.out (by intro u hu; obtain ⟨b, _, rfl⟩ := List.mem_map.1 hu; rfl) (by unfold maxLen; simp; omega) (by simp; omega) hsz ?_))
      intro v8 w8 hO8 hg8 _
      have hb8 : Below w1.heap.size w1 w8 := HB.out.grown hg8 hsz (fun j' hj' => by simp [Value.ownBlock] at hj')
      have hb9 : Below wr.heap.size wr w8 := (Below.refl _ _).grown hg8 (Nat.le_refl _) (fun j' hj' => by simp [Value.ownBlock] at hj')
      obtain ⟨A8, c8, hv8, _, _⟩ := hO8.form
      subst hv8
      have HB8 := hid hb8
      have HR8 := hid (HR.out.below hb9)
      have ew := EW.out w8 ((hb9.cell (p := ⟨E, 2 * j, none⟩) (by show E < _; omega)).trans HE1.out)
      clear hO8 hg8 hb8 hb9
      generalize (List.length ([] ++ (T.1.map fun (x : Nat) => Value.int .i64 x))) = n8 at *
      go_wp2_with fail
      refine ew.mono ?_
      rintro e w9 ⟨rfl, rfl⟩
      clear ew
      go_wp2_with fail
      (try simp only [Exit.inBlock, Exit.then]); refine bodyPost_ret (results_tmp6 rfl _ _ _) rfl ?_
      exact ⟨_, _, _, _, A9, c9, rfl, HR8.out, HB1.out.trans (HB8.out.mono HB1.out.size)⟩
end Go.Proofs.Ytjgckbccbambmaa
