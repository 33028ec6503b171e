/- QR codes: spec.qrPattern. -/
import Derived.Test.YtpffffhgmhpkiaaQaD
namespace Go.Proofs.Ytpffffhgmhpkiaa
open Go.RowKit
set_option linter.unusedVariables false
set_option linter.unusedSimpArgs false

/-- What must stand at a module: bits of the format and of the version. -/
def PatOk (v F V r c : Nat) (b : Bool) : Prop :=
  (∀ i, i < 15 → (p1 i).1 = r → (p1 i).2 = c → b = F.testBit i) ∧ (∀ i, i < 15 → (p2 (17 + 4 * v) i).1 = r → (p2 (17 + 4 * v) i).2 = c → b = F.testBit i) ∧ (7 ≤ v → ∀ i, i < 18 → (pv (17 + 4 * v) i).1 = r → (pv (17 + 4 * v) i).2 = c → b = V.testBit i)
/-- At a module of no such bit anything may stand. -/
theorem pat_none {v F V r c : Nat} {b : Bool} (h1 : 1 ≤ v) (hf : FmtIs (17 + 4 * v) r c (-1)) (hv : 7 ≤ v → ¬ (r ≤ 5 ∧ 17 + 4 * v ≤ c + 11 ∧ c + 9 ≤ 17 + 4 * v)) : PatOk v F V r c b := by
  refine ⟨fun i hi e1 e2 => ?_, fun i hi e1 e2 => ?_, fun h7 i hi e1 e2 => ?_⟩
  · have := fmt_p1 hf (by omega) hi e1 e2; omega
  · have := fmt_p2 hf (by omega) hi e1 e2; omega
  · exfalso; unfold pv at e1 e2; simp only at e1 e2
    exact hv h7 (by omega)
theorem pat_fmt {v F V r c k : Nat} {b : Bool} (h1 : 1 ≤ v) (hf : FmtIs (17 + 4 * v) r c (k : Int)) (hb : b = F.testBit k) : PatOk v F V r c b := by
  refine ⟨fun i hi e1 e2 => ?_, fun i hi e1 e2 => ?_, fun h7 i hi e1 e2 => ?_⟩
  · have := fmt_p1 hf (by omega) hi e1 e2; rw [hb, show k = i by omega]
  · have := fmt_p2 hf (by omega) hi e1 e2; rw [hb, show k = i by omega]
  · have := fmt_pv hf (by omega) hi e1 e2; omega
theorem pat_ver {v F V r c : Nat} {b : Bool} (h7 : 7 ≤ v) (hf : FmtIs (17 + 4 * v) r c (-1)) (hc : 17 + 4 * v ≤ c + 11) (hb : b = V.testBit (r * 3 + (c + 11 - (17 + 4 * v)))) : PatOk v F V r c b := by
  refine ⟨fun i hi e1 e2 => ?_, fun i hi e1 e2 => ?_, fun h7 i hi e1 e2 => ?_⟩
  · have := fmt_p1 hf (by omega) hi e1 e2; omega
  · have := fmt_p2 hf (by omega) hi e1 e2; omega
  · unfold pv at e1 e2; simp only at e1 e2
    rw [hb]; congr 1; omega
theorem vtab_lt (i : Nat) : vtab.getD i 0 < 262144 := by
  rcases Nat.lt_or_ge i 34 with h | h
  · have : ((List.range 34).all fun i => decide (vtab.getD i 0 < 262144)) = true := by decide +kernel
    simpa using List.all_eq_true.1 this i (List.mem_range.2 h)
  · rw [List.getD, List.getElem?_eq_none (by simpa [vtab] using h)]; decide
theorem bit_eq (F k : Nat) : (((F / 2 ^ k % 2 : Nat) : Int) == 1) = F.testBit k := by
  rw [Nat.testBit_eq_decide_div_mod_eq]
  by_cases h : F / 2 ^ k % 2 = 1
  · rw [h]; rfl
  · rw [show F / 2 ^ k % 2 = 0 by omega]; rfl
def PatOut (v F V r c : Nat) (w : World) (e : Ending) (w' : World) : Prop := ∃ b, e = .returned (.bool b) ∧ PatOk v F V r c b ∧ ∃ m, w.drewN m = w'
set_option maxRecDepth 20000 in
set_option maxHeartbeats 8000000 in
theorem patternQ (v F r c m cp : Nat) (A : Option Addr) (w : World) (h1 : 1 ≤ v) (h2 : v ≤ 40) (hF : F < 32768) (hm : m = cmany v) (hR : Rd w A m (cenV v)) (hr : r < 17 + 4 * v) (hc : c < 17 + 4 * v) (hg : gvB v r c = true) :
    Calls Try.prog 62 #[.int .i64 v, .int .i64 F, .slice A m cp, .int .i64 r, .int .i64 c] w (PatOut v F (vtab.getD (v - 7) 0) r c w) := by
  have al := alignQ v r c m cp A w h1 h2 hm hR (by omega) (by omega)
  have dq := fun W => dimQ v h2 W
  have fm := fun W => fmtAtQ (17 + 4 * v) r c (by omega) (by omega) hr hc W
  have PN := hid (fun (b : Bool) hf hv => pat_none (v := v) (F := F) (V := vtab.getD (v - 7) 0) (r := r) (c := c) (b := b) h1 hf hv)
  have PF := hid (fun (b : Bool) (k : Nat) hf hb => pat_fmt (v := v) (F := F) (V := vtab.getD (v - 7) 0) (r := r) (c := c) (b := b) (k := k) h1 hf hb)
  have PV := hid (fun (b : Bool) h7 hf hc hb => pat_ver (v := v) (F := F) (V := vtab.getD (v - 7) 0) (r := r) (c := c) (b := b) h7 hf hc hb)
  have VQ := hid (fun (h7 : 7 ≤ v) W => vbitsQ v h7 h2 W)
  have HG := hid (show gvP v (17 + 4 * v) r c ∨ alB v r c = true by
    unfold gvB at hg
    rcases Bool.or_eq_true_iff.1 hg with h | h
    · exact .inl ((gv_iff v (17 + 4 * v) r c).1 h)
    · exact .inr h)
  have HAV := hid (fun (h7 : 7 ≤ v) (hr5 : r ≤ 5) (c1 : 17 + 4 * v - 11 ≤ c) (c2 : c ≤ 17 + 4 * v - 9) (ht : alB v r c = true) => show False from by
    unfold alB at ht
    rw [List.any_eq_true] at ht
    obtain ⟨i, hi, ht⟩ := ht
    rw [List.any_eq_true] at ht
    obtain ⟨k, hk, ht⟩ := ht
    unfold nearA skipA at ht
    simp only [Bool.and_eq_true, Bool.not_eq_true', Bool.or_eq_false_iff, decide_eq_false_iff_not, decide_eq_true_eq] at ht
    exact align_none v r c i k h7 h2 (List.mem_range.1 hi) (List.mem_range.1 hk) hr5 c1 c2 ht.1.1 (by omega) (by omega) (by omega) (by omega))
  obtain ⟨n, hn⟩ : ∃ n, n = 17 + 4 * v := ⟨_, rfl⟩
  have HN := hid hn
  rw [← hn] at dq fm hr hc PN PF PV HG HAV
  unfold AlOut at al
  generalize alB v r c = ab at *
  have hn177 : n ≤ 177 := by omega
  have hn21 : 21 ≤ n := by omega
  have FQ := fun (a b : Nat) (ha : a ≤ 177) (hb : b ≤ 177) W => farQ r c a b (by omega) (by omega) (by omega) (by omega) (by omega) (by omega) (by omega) (by omega) W
  have f1 := fun W => FQ 3 3 (by omega) (by omega) W
  have f2 := fun W => FQ 3 (n - 4) (by omega) (by omega) W
  have f3 := fun W => FQ (n - 4) 3 (by omega) (by omega) W
  have e4 : ((n - 4 : Nat) : Int) = (n : Int) - 4 := by omega
  rw [e4] at f2 f3
  unfold FarOut at f1 f2 f3
  have F1 := hid f1; have F2 := hid f2; have F3 := hid f3
  have hV : vtab.getD (v - 7) 0 < 262144 := vtab_lt (v - 7)
  generalize vtab.getD (v - 7) 0 = V at *
  clear hn hm hR hg FQ e4 f1 f2 f3
  go_enter Try.func62, Try.ntmps62
  go_wp2_with fail
  refine (dq _).mono ?_
  rintro e w1 ⟨rfl, rfl⟩
  go_wp2_with fail
  refine (fm _).mono ?_
  rintro e w1 ⟨z, rfl, hz, rfl⟩
  have HZ := hid hz
  clear fm
  by_cases hz0 : 0 ≤ z
  · obtain ⟨k, rfl⟩ : ∃ k : Nat, z = k := ⟨z.toNat, by omega⟩
    have hk : k < 15 := by unfold FmtIs at hz; omega
    have ao := andOne F k (by omega)
    have HB := hid (bit_eq F k)
    clear hz al
    go_wp2_with fail
    go_ret
    exact ⟨_, rfl, PF.out _ k HZ.out HB.out, 0, rfl⟩
  · obtain rfl : z = -1 := by unfold FmtIs at hz; omega
    have hz' := hz
    unfold FmtIs at hz'
    by_cases hd : r + 8 = n ∧ c = 8
    · obtain ⟨hd1, rfl⟩ := hd
      have d1 : (r : Int) ≤ (n : Int) - 8 := by omega
      have d2 : (n : Int) - 8 ≤ (r : Int) := by omega
      have HNV := hid (show 7 ≤ v → ¬ (r ≤ 5 ∧ n ≤ 8 + 11 ∧ 8 + 9 ≤ n) by have := HN.out; omega)
      clear hz hz' al hd1
      go_wp2_with fail
      · go_ret
        exact ⟨_, rfl, PN.out _ HZ.out HNV.out, 0, rfl⟩
    · have hd2 : (r + 8 = n ∧ ¬ (c : Int) = 8) ∨ ¬ (r : Int) = (n : Int) - 8 := by omega
      have HF := hid hz'
      rcases hd2 with ⟨g1, g2⟩ | g1
      rotate_left
      all_goals (
        clear hz hz' hd
        go_wp2_with fail
        (try (have e9 : ((n : Int) - 8) = (r : Int) := by omega
              simp only [e9]
              clear e9 g1
              clear ‹(r : Int) = (n : Int) - 8›))
        refine (F1.out _).mono ?_
        rintro e w5 ⟨x1, rfl, x10, x1l, x1a, x1b, x1c, x1d, x1e, rfl⟩
        go_wp2_with fail
        refine (F2.out _).mono ?_
        rintro e w5 ⟨x2, rfl, x20, x2l, x2a, x2b, x2c, x2d, x2e, rfl⟩
        go_wp2_with fail
        refine (F3.out _).mono ?_
        rintro e w5 ⟨x3, rfl, x30, x3l, x3a, x3b, x3c, x3d, x3e, rfl⟩
        have HX := hid (show x1 ≤ 4 ∨ x2 ≤ 4 ∨ x3 ≤ 4 → 7 ≤ v → ¬ (r ≤ 5 ∧ n ≤ c + 11 ∧ c + 9 ≤ n) by have := HN.out; omega)
        have HY := hid (show 4 < x1 ∧ 4 < x2 ∧ 4 < x3 → gvP v n r c → r ≠ 6 → c ≠ 6 → 7 ≤ v ∧ ((r ≤ 5 ∧ n ≤ c + 11 ∧ c + 9 ≤ n) ∨ (c ≤ 5 ∧ n ≤ r + 11 ∧ r + 9 ≤ n)) by
          have hf := HF.out
          have hn' := HN.out
          unfold gvP
          omega)
        obtain ⟨M, hM⟩ : ∃ M, (if x3 < (if x2 < x1 then x2 else x1) then x3 else (if x2 < x1 then x2 else x1)) = M := ⟨_, rfl⟩
        have hM0 : 0 ≤ M ∧ M ≤ 2000 ∧ (M ≤ 4 ↔ x1 ≤ 4 ∨ x2 ≤ 4 ∨ x3 ≤ 4) := by
          have hM' := hM
          revert hM'; split <;> split <;> omega
        clear x1a x1b x1c x1d x1e x2a x2b x2c x2d x2e x3a x3b x3c x3d x3e
        by_cases hM4 : M ≤ 4
        · have HNV := hid (HX.out (hM0.2.2.1 hM4))
          clear al
          go_wp2_with fail
          all_goals (
            go_ret
            exact ⟨_, rfl, PN.out _ HZ.out HNV.out, 0, rfl⟩)
        · have HGT := hid (show 4 < x1 ∧ 4 < x2 ∧ 4 < x3 by omega)
          obtain ⟨hMa, hMb, _⟩ := hM0
          clear x10 x1l x20 x2l x30 x3l
          go_wp2_with fail
          refine al.mono ?_
          rintro e w5 ⟨y, rfl, y0, y1, yi, rfl⟩
          clear al
          by_cases hy : 0 ≤ y
          · have HNV := hid (show 7 ≤ v → ¬ (r ≤ 5 ∧ n ≤ c + 11 ∧ c + 9 ≤ n) from fun h7 h => HAV.out h7 h.1 (by omega) (by omega) (yi.1 hy))
            clear yi
            go_wp2_with fail
            go_ret
            exact ⟨_, rfl, PN.out _ HZ.out HNV.out, 0, rfl⟩
          · have hgv : gvP v n r c := by
              rcases HG.out with h | h
              · exact h
              · exact absurd (yi.2 h) hy
            clear yi
            by_cases h6 : r = 6 ∨ c = 6
            · have HNV := hid (show 7 ≤ v → ¬ (r ≤ 5 ∧ n ≤ c + 11 ∧ c + 9 ≤ n) by have := HN.out; omega)
              clear hgv
              have h6' : (r : Int) = 6 ∨ ((r : Int) ≠ 6 ∧ (c : Int) = 6) := by omega
              clear h6
              rcases h6' with h6 | ⟨h6, h6b⟩
              all_goals (
                go_wp2_with fail
                all_goals (
                  go_ret
                  exact ⟨_, rfl, PN.out _ HZ.out HNV.out, 0, rfl⟩))
            · have g6 : ¬ (r : Int) = 6 := by omega
              have g6b : ¬ (c : Int) = 6 := by omega
              obtain ⟨h7, hor⟩ := HY.out HGT.out hgv (by omega) (by omega)
              have vq := VQ.out h7
              clear hgv h6
              rcases hor with ⟨k1, k2, k3⟩ | ⟨k1, k2, k3⟩
              · have HH := hid (show n ≤ c + 11 from k2)
                have hlt : (r : Int) < (c : Int) := by omega
                have hs0 : 0 ≤ (r : Int) * 3 + (c : Int) - (n : Int) + 11 := by omega
                have hs : ((r : Int) * 3 + (c : Int) - (n : Int) + 11).toNat = r * 3 + (c + 11 - n) := by omega
                obtain ⟨k, hk⟩ : ∃ k, k = r * 3 + (c + 11 - n) := ⟨_, rfl⟩
                rw [← hk] at hs
                have HK := hid hk
                have ao := andOne V k hV
                have HB := hid (bit_eq V k)
                clear hk
                go_wp2_with fail
                · exfalso; simp only [beq_iff_eq] at *; omega
                refine (vq _).mono ?_
                rintro e w5 ⟨rfl, mm, rfl⟩
                go_wp2_with fail
                go_ret
                exact ⟨_, rfl, PV.out _ h7 HZ.out HH.out (HK.out ▸ HB.out), mm, rfl⟩
              · have HNV := hid (show 7 ≤ v → ¬ (r ≤ 5 ∧ n ≤ c + 11 ∧ c + 9 ≤ n) by omega)
                have hlt : ¬ (r : Int) < (c : Int) := by omega
                have hs0 : 0 ≤ (c : Int) * 3 + (r : Int) - (n : Int) + 11 := by omega
                obtain ⟨k, hk⟩ : ∃ k, k = c * 3 + (r + 11 - n) := ⟨_, rfl⟩
                have hs : ((c : Int) * 3 + (r : Int) - (n : Int) + 11).toNat = k := by omega
                have ao := andOne V k hV
                clear hk
                go_wp2_with fail
                · exfalso; simp only [beq_iff_eq] at *; omega
                refine (vq _).mono ?_
                rintro e w5 ⟨rfl, mm, rfl⟩
                go_wp2_with fail
                go_ret
                exact ⟨_, rfl, PN.out _ HZ.out HNV.out, mm, rfl⟩)
end Go.Proofs.Ytpffffhgmhpkiaa
