/- FnDMSymbols: the walk of the law where there is a symbol. -/
import Derived.Test.YtfmjkflihnfneaaDmJ
namespace Go.Proofs.Ytfmjkflihnfneaa
open Go.RowKit
set_option linter.unusedVariables false
def sevenOf (a b c d e f g : Nat) : List Value := [.int .i64 a, .int .i64 b, .int .i64 c, .int .i64 d, .int .i64 e, .int .i64 f, .int .i64 g]
set_option maxRecDepth 20000 in
set_option maxHeartbeats 40000000 in
theorem lawYes (words shape : Nat) (h1 : 1 ≤ words) (hw : words ≤ 9223372036854775807) (hs : shape ≤ 2) (hm : words ≤ most shape 30) (w : World) :
    Calls Try.prog 3 #[.int .i64 words, .int .i64 shape] w fun e w' => e = .returned (.bool true) ∧ Below w.heap.size w w' := by
  have sh := fun W => shapeT shape hs W
  have yes := fun W => symYes words shape hw hs hm W
  have mo := fun W => dmMost shape hs W
  have sz := fun W => dmSizes W
  have FT := hid (fun k W => dmFits (szf k 0 : Nat) (szf k 1 : Nat) (szf k 2 : Nat) (szf k 3 : Nat) (szf k 4 : Nat) (szf k 5 : Nat) (szf k 6 : Nat) shape hs W)
  have hm' : ¬ ((most shape 30 : Nat) : Int) < (words : Int) := by omega
  generalize most shape 30 = M at *
  have hw1 : ¬ (words : Int) < 1 := by omega
  clear hm
  go_enter Try.func3, Try.ntmps3
  go_wp2_with fail
  refine (sh _).mono ?_
  rintro e w1 ⟨rfl, rfl⟩
  clear sh
  go_wp2_with fail
  refine (yes _).mono ?_
  rintro e w1 ⟨K, a, b, c, d, f, g, hK, hf, hfirst, ha, hbb, hc, hd, hff, hg, hb1, rfl⟩
  have HB1 := hid hb1
  have hx := (rowFits_iff words shape K hs hK).symm.trans hf
  have HFITK : Hid (fitsB K shape = true) := hid ((Bool.and_eq_true _ _ |>.mp hx).1)
  have hwE : words ≤ szf K 4 := by have := (Bool.and_eq_true _ _ |>.mp hx).2; simpa using this
  have HFIRST : Hid (∀ j, j < K → (fitsB j shape && decide (words ≤ szf j 4)) = false) := hid fun j hj => (rowFits_iff words shape j hs (by omega)).symm.trans (hfirst j hj)
  have HSORT : Hid (∀ j, K < j → j < 30 → szf K 4 ≤ szf j 4) := hid fun j h1 h2 => sorted K j (by omega) h2
  have hE2 := szf_le K 4 hK (by omega)
  have la := szf_le K 0 hK (by omega)
  have lb := szf_le K 1 hK (by omega)
  have lc := szf_le K 2 hK (by omega)
  have ld := szf_le K 3 hK (by omega)
  rw [← ha] at la
  rw [← hbb] at lb
  rw [← hc] at lc
  rw [← hd] at ld
  have DI := hid (fun W => dmIsT a b c d (szf K 4) f g la lb lc ld W)
  have HK4 : Hid (∃ E, E = szf K 4) := hid ⟨_, rfl⟩
  obtain ⟨E, hE⟩ := HK4.out
  rw [← hE] at DI HSORT hwE hE2 ⊢
  have HA := hid ha
  have HBB := hid hbb
  have HC := hid hc
  have HD := hid hd
  have HE := hid hE
  have HF := hid hff
  have HG := hid hg
  clear yes hb1 hf hfirst ha hbb hc hd hE hff hg hx HK4
  generalize b / (d + 2) * d = P at *
  generalize a / (c + 2) * c = Q at *
  have HX := hid (Arr.of_new w1 24 #[.int .i64 E, .int .i64 f, .int .i64 d, .int .i64 c, .int .i64 g, .int .i64 b, .int .i64 a, .int .i64 P, .int .i64 Q])
  have HBX := hid (HB1.out.alloc HB1.out.size (.cells #[.int .i64 E, .int .i64 f, .int .i64 d, .int .i64 c, .int .i64 g, .int .i64 b, .int .i64 a, .int .i64 P, .int .i64 Q] 24))
  go_wp2_with fail
  refine (mo _).mono ?_
  rintro e w2 ⟨rfl, hb2⟩
  have HB2 := hid (HBX.out.trans (hb2.mono HBX.out.size))
  have HX2 := hid (HX.out.below hb2 HX.out.lt)
  clear mo hb2 HX HBX
  obtain ⟨gx, hgx⟩ : ∃ gx, gx = w1.heap.size := ⟨_, rfl⟩
  rw [← hgx] at HX2 ⊢
  have HGX := hid hgx
  clear hgx
  go_wp2_with fail
  refine (sz _).mono ?_
  rintro e w3 ⟨rfl, hA3, hb3⟩
  have HB3 := hid (HB2.out.trans (hb3.mono HB2.out.size))
  have HX3 := hid (HX2.out.below hb3 HX2.out.lt)
  have HA3 := hid hA3
  clear sz hb3 hA3
  obtain ⟨gs, hgs⟩ : ∃ gs, gs = w2.heap.size := ⟨_, rfl⟩
  rw [← hgs] at HA3 ⊢
  have HGS := hid hgs
  clear hgs
  go_wp2_with fail
  go_loopw [9, 48] (fun sv iv wr => ∃ j : Nat, j ≤ 30 ∧ iv = .int .i64 j ∧ sv = .bool (decide (K < j)) ∧ Hid (Arr wr gx 24 [.int .i64 E, .int .i64 f, .int .i64 d, .int .i64 c, .int .i64 g, .int .i64 b, .int .i64 a, .int .i64 P, .int .i64 Q]) ∧ Hid (Arr wr gs 31 szVals) ∧ Hid (Below w.heap.size w wr)) (fun _ iv _ => 30 - (intOf iv).toNat)
  case atStart => exact ⟨0, by omega, rfl, by simp, HX3, HA3, HB3⟩
  case round =>
    obtain ⟨j, hj, rfl, rfl, HXr, HAr, HBr⟩ := hrel
    by_cases hlt : j < 30
    · have hlt' : (j : Int) < 30 := by omega
      have c0 := szVals_at HAr.out j 0 hlt (by omega)
      have c1 := szVals_at HAr.out j 1 hlt (by omega)
      have c2 := szVals_at HAr.out j 2 hlt (by omega)
      have c3 := szVals_at HAr.out j 3 hlt (by omega)
      have c4 := szVals_at HAr.out j 4 hlt (by omega)
      have c5 := szVals_at HAr.out j 5 hlt (by omega)
      have c6 := szVals_at HAr.out j 6 hlt (by omega)
      rw [Nat.add_zero] at c0
      have ft1 := FT.out j
      rw [fitsI_sz] at ft1
      have hz4 := szf_le j 4 hlt (by omega)
      have HFJ : Hid (j < K → (fitsB j shape && decide (words ≤ szf j 4)) = false) := hid (HFIRST.out j)
      have HSJ : Hid (K < j → E ≤ szf j 4) := hid (fun h => HSORT.out j h hlt)
      have HJK : Hid (j = K → szf j 0 = a ∧ szf j 1 = b ∧ szf j 2 = c ∧ szf j 3 = d ∧ szf j 4 = E ∧ szf j 5 = f ∧ szf j 6 = g ∧ fitsB j shape = true) := hid (fun h => by
        subst h
        exact ⟨HA.out.symm, HBB.out.symm, HC.out.symm, HD.out.symm, HE.out.symm, HF.out.symm, HG.out.symm, HFITK.out⟩)
      generalize szf j 0 = s0 at *
      generalize szf j 1 = s1 at *
      generalize szf j 2 = s2 at *
      generalize szf j 3 = s3 at *
      generalize szf j 4 = s4 at *
      generalize szf j 5 = s5 at *
      generalize szf j 6 = s6 at *
      generalize fitsB j shape = q at *
      have hAn := hid (Arr.of_new wr 31 #[.int .i64 s0, .int .i64 s1, .int .i64 s2, .int .i64 s3, .int .i64 s4, .int .i64 s5, .int .i64 s6])
      have hz := HBr.out.size
      have HN := hid (HBr.out.alloc hz (.cells #[.int .i64 s0, .int .i64 s1, .int .i64 s2, .int .i64 s3, .int .i64 s4, .int .i64 s5, .int .i64 s6] 31))
      have HXn := hid (HXr.out.alloc (.cells #[.int .i64 s0, .int .i64 s1, .int .i64 s2, .int .i64 s3, .int .i64 s4, .int .i64 s5, .int .i64 s6] 31))
      have HAn := hid (HAr.out.alloc (.cells #[.int .i64 s0, .int .i64 s1, .int .i64 s2, .int .i64 s3, .int .i64 s4, .int .i64 s5, .int .i64 s6] 31))
      have FT1 := hid ft1
      clear ft1
      have cases5 : (q = false ∧ True) ∨ (q = true ∧ s4 < words) ∨ (j = K ∧ q = true ∧ words ≤ s4) ∨ (K < j ∧ q = true ∧ words ≤ s4 ∧ E ≤ s4) := by
        cases q
        · exact .inl ⟨rfl, trivial⟩
        · rcases Nat.lt_or_ge s4 words with h | h
          · exact .inr (.inl ⟨rfl, h⟩)
          · rcases Nat.lt_trichotomy j K with h2 | h2 | h2
            · have := HFJ.out h2
              simp at this; omega
            · exact .inr (.inr (.inl ⟨h2, rfl, h⟩))
            · exact .inr (.inr (.inr ⟨h2, rfl, h, HSJ.out h2⟩))
      have HQK : Hid (q = false ∨ s4 < words → decide (K < j) = decide (K < j + 1)) := hid (fun h => by
        by_cases h2 : j = K
        · obtain ⟨_, _, _, _, h5, _, _, h8⟩ := HJK.out h2
          rcases h with h | h
          · rw [h8] at h; cases h
          · omega
        · by_cases h3 : K < j
          · rw [decide_eq_true h3, decide_eq_true (by omega)]
          · rw [decide_eq_false h3, decide_eq_false (by omega)])
      rcases cases5 with ⟨rfl, _⟩ | ⟨rfl, h4⟩ | ⟨hjk, rfl, h4⟩ | ⟨hjk, rfl, h4, h5⟩
      · have HD2 := hid (HQK.out (.inl rfl))
        generalize decide (K < j) = dk at *
        go_wp2_with fail
        refine (FT1.out _).mono ?_
        rintro e w4 ⟨rfl, hb⟩
        have HB4 := hid (HN.out.trans (hb.mono HN.out.size))
        have HX4 := hid (HXn.out.below hb HXn.out.lt)
        have HA4 := hid (HAn.out.below hb HAn.out.lt)
        clear hb
        go_wp2_with fail
        go_roundw
        case rel => exact ⟨j + 1, by omega, by go_num, by rw [HD2.out], HX4, HA4, HB4⟩
        case measure => simp [intOf]; omega
      · have HD2 := hid (HQK.out (.inr h4))
        have h4' : (s4 : Int) < (words : Int) := by omega
        generalize decide (K < j) = dk at *
        go_wp2_with fail
        refine (FT1.out _).mono ?_
        rintro e w4 ⟨rfl, hb⟩
        have HB4 := hid (HN.out.trans (hb.mono HN.out.size))
        have HX4 := hid (HXn.out.below hb HXn.out.lt)
        have HA4 := hid (HAn.out.below hb HAn.out.lt)
        have d4 : w4.cell? ⟨wr.heap.size, 4, none⟩ = some (.int .i64 s4) := (hAn.out.below hb hAn.out.lt).cell? 4
        clear hb
        go_wp2_with fail
        go_roundw
        case rel => exact ⟨j + 1, by omega, by go_num, by rw [HD2.out], HX4, HA4, HB4⟩
        case measure => simp [intOf]; omega
      · obtain ⟨rfl, rfl, rfl, rfl, rfl, rfl, rfl, _⟩ := HJK.out hjk
        have hdk : decide (K < j) = false := decide_eq_false (by omega)
        have HD2 : Hid (true = decide (K < j + 1)) := hid (decide_eq_true (by omega)).symm
        rw [hdk]
        have h4' : ¬ (s4 : Int) < (words : Int) := by omega
        clear hdk hjk
        go_wp2_with fail
        refine (FT1.out _).mono ?_
        rintro e w4 ⟨rfl, hb⟩
        have HB4 := hid (HN.out.trans (hb.mono HN.out.size))
        have hX4 := HXn.out.below hb HXn.out.lt
        have hS4 := hAn.out.below hb hAn.out.lt
        have HX4 := hid hX4
        have HA4 := hid (HAn.out.below hb HAn.out.lt)
        have x0 := hX4.cell? 0
        have x1 := hX4.cell? 1
        have x2 := hX4.cell? 2
        have x3 := hX4.cell? 3
        have x4 := hX4.cell? 4
        have x5 := hX4.cell? 5
        have x6 := hX4.cell? 6
        have x7 := hX4.cell? 7
        have x8 := hX4.cell? 8
        have d0 := hS4.cell? 0
        have d1 := hS4.cell? 1
        have d2 := hS4.cell? 2
        have d3 := hS4.cell? 3
        have d4 := hS4.cell? 4
        have d5 := hS4.cell? 5
        have d6 := hS4.cell? 6
        simp only [List.getElem?_cons_zero, List.getElem?_cons_succ] at x0 x1 x2 x3 x4 x5 x6 x7 x8 d0 d1 d2 d3 d4 d5 d6
        clear hb hX4 hS4
        go_wp2_with fail
        refine (DI.out _).mono ?_
        rintro e w5 ⟨rfl, hb⟩
        have HB5 := hid (HB4.out.trans (hb.mono HB4.out.size))
        have HX5 := hid (HX4.out.below hb HX4.out.lt)
        have HA5 := hid (HA4.out.below hb HA4.out.lt)
        clear hb
        go_wp2_with fail
        go_roundw
        case rel => exact ⟨j + 1, by omega, by go_num, by rw [← HD2.out], HX5, HA5, HB5⟩
        case measure => simp [intOf]; omega
      · have hdk : decide (K < j) = true := decide_eq_true hjk
        have HD2 : Hid (true = decide (K < j + 1)) := hid (decide_eq_true (by omega)).symm
        rw [hdk]
        have h4' : ¬ (s4 : Int) < (words : Int) := by omega
        have h5' : ¬ (s4 : Int) < (E : Int) := by omega
        clear hdk
        go_wp2_with fail
        refine (FT1.out _).mono ?_
        rintro e w4 ⟨rfl, hb⟩
        have HB4 := hid (HN.out.trans (hb.mono HN.out.size))
        have hX4 := HXn.out.below hb HXn.out.lt
        have HX4 := hid hX4
        have HA4 := hid (HAn.out.below hb HAn.out.lt)
        have x0 : w4.cell? ⟨gx, 0, none⟩ = some (.int .i64 E) := hX4.cell? 0
        have d4 : w4.cell? ⟨wr.heap.size, 4, none⟩ = some (.int .i64 s4) := (hAn.out.below hb hAn.out.lt).cell? 4
        clear hb hX4
        go_wp2_with fail
        go_roundw
        case rel => exact ⟨j + 1, by omega, by go_num, by rw [← HD2.out], HX4, HA4, HB4⟩
        case measure => simp [intOf]; omega
    · obtain rfl : j = 30 := by omega
      have hdk : decide (K < 30) = true := decide_eq_true hK
      rw [hdk]
      clear hdk
      go_wp2_with fail
      go_ret
      exact ⟨rfl, HBr.out⟩
theorem lawShort (z s : Int) (h : z < 1) (w : World) : Calls Try.prog 3 #[.int .i64 z, .int .i64 s] w fun e w' => e = .returned (.bool true) ∧ Below w.heap.size w w' := by
  have B0 := hid (Below.refl w.heap.size w)
  go_enter Try.func3, Try.ntmps3
  go_wp2_with fail
  go_ret
  exact ⟨rfl, B0.out⟩
theorem lawShape (z s : Int) (h1 : 1 ≤ z) (h : s < 0 ∨ 2 < s) (w : World) : Calls Try.prog 3 #[.int .i64 z, .int .i64 s] w fun e w' => e = .returned (.bool true) ∧ Below w.heap.size w w' := by
  have B0 := hid (Below.refl w.heap.size w)
  have sf := shapeF s h w
  have hz : ¬ z < 1 := by omega
  clear h
  go_enter Try.func3, Try.ntmps3
  go_wp2_with fail
  refine sf.mono ?_
  rintro e w1 ⟨rfl, rfl⟩
  go_wp2_with fail
  go_ret
  exact ⟨rfl, B0.out⟩
theorem FnDMSymbols_walk (w : World) (z : Int) (hz : (Lit.int .i64 z).wf = true) (s : Int) (hs : (Lit.int .i64 s).wf = true) :
    Calls Try.prog 3 #[.int .i64 z, .int .i64 s] w fun e w' => e = .returned (.bool true) ∧ Below w.heap.size w w' := by
  obtain ⟨z0, z1⟩ := wf_i64 hz
  by_cases h1 : z < 1
  · exact lawShort z s h1 w
  by_cases h2 : s < 0 ∨ 2 < s
  · exact lawShape z s (by omega) h2 w
  obtain ⟨n, rfl⟩ : ∃ n : Nat, z = n := ⟨z.toNat, by omega⟩
  obtain ⟨k, rfl⟩ : ∃ k : Nat, s = k := ⟨s.toNat, by omega⟩
  by_cases h3 : n ≤ most k 30
  · exact lawYes n k (by omega) (by omega) (by omega) h3 w
  · exact lawNo n k (by omega) (by omega) (by omega) (by omega) w
end Go.Proofs.Ytfmjkflihnfneaa
