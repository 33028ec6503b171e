/- The reference's generator and code: it is zero at each root. -/
import Derived.Test.YtpkmknbmjlnkgaaRestW
import Derived.Test.YtpkmknbmjlnkgaaGenW
namespace Go.Proofs.Ytpkmknbmjlnkgaa
open Go.RowKit
set_option linter.unusedVariables false

/-- A generator with i roots. -/
def GenL (p m base i : Nat) (l : List Nat) : Prop := tidy l = l ∧ AllIn m l ∧ l.length = i + 1 ∧ l.getD 0 0 = 1 ∧ ∀ j, j < i → valAt p m (ex p m (base + j)) l = 0

theorem gen_step {p m base i : Nat} (h : IsGF p m) {l : List Nat} (hl : GenL p m base i l) : GenL p m base (i + 1) (tidy (prodL p m l [1, ex p m (base + i)])) := by
  obtain ⟨hT, hA, hn, h0, hr⟩ := hl
  have hx := ex_lt h (p := p) (m := m) (base + i)
  have hB : AllIn m [1, ex p m (base + i)] := fun z hz => by simp at hz; rcases hz with rfl | rfl; exact one_lt h; exact hx
  have hP := prodL_in h hA hB
  have e0 : (prodL p m l [1, ex p m (base + i)]).getD 0 0 = 1 := by
    rw [prod_head l _ (by omega) (by simp), h0]
    exact gm_one h 1
  have el : (prodL p m l [1, ex p m (base + i)]).length = i + 2 := by rw [prodL_len, hn]; simp
  have eT : tidy (prodL p m l [1, ex p m (base + i)]) = prodL p m l [1, ex p m (base + i)] := tidy_first (.inl (by rw [e0]; decide)) (by omega)
  rw [eT]
  refine ⟨eT, hP, el, e0, fun j hj => ?_⟩
  have hy := ex_lt h (p := p) (m := m) (base + j)
  rw [val_prod h hy hA hB (by simp)]
  have e1 : valAt p m (ex p m (base + j)) [1, ex p m (base + i)] = ex p m (base + j) ^^^ ex p m (base + i) := by
    rw [val_cons h hy (one_lt h) (fun z hz => by rw [List.mem_singleton.1 hz]; exact hx), val_one]
    show gm p m 1 (gm p m 1 _) ^^^ _ = _
    rw [one_gm h hy, one_gm h hy]
  rw [e1]
  rcases (by omega : j < i ∨ j = i) with h1 | h1
  · rw [hr j h1, zero_gm]
  · rw [h1, Nat.xor_self, gm_zero]
theorem gen_zero {p m base : Nat} (h : IsGF p m) : GenL p m base 0 [1] := ⟨rfl, fun z hz => by rw [List.mem_singleton.1 hz]; exact one_lt h, rfl, rfl, fun j hj => by omega⟩

/-- A generator is handed back. -/
def GenOutL (p m base n : Nat) (w : World) (e : Ending) (w' : World) : Prop := ∃ l, GenL p m base n l ∧ ListOut l w e w'

set_option maxRecDepth 20000 in
set_option maxHeartbeats 4000000 in
theorem rsGenerator (p m N base n : Nat) (w : World) (h : IsGF p m) (hN : Hid (N = 2 ^ m)) (hb : base ≤ 1) (hn : n ≤ 100) :
    Calls Try.prog 44 #[fieldVal p N base, .int .i64 n] w (GenOutL p m base n w) := by
  have hN1 : N ≤ 4096 := by rw [hN.out]; exact Nat.pow_le_pow_right (n := 2) (by omega) h.small
  have h2 : 2 < N := by rw [hN.out]; exact two_lt h
  have A0 := (Arr.of_new w 23 #[.int .i64 p, .int .i64 N, .int .i64 base]).alloc (.cells #[.int .i64 1] 3)
  have B0 : Below w.heap.size w ((w.alloc (.cells #[.int .i64 p, .int .i64 N, .int .i64 base] 23)).alloc (.cells #[.int .i64 1] 3)) := ((Below.refl _ _).alloc (Nat.le_refl _) _).alloc (by simp) _
  have R0 := Rd.one (w.alloc (.cells #[.int .i64 p, .int .i64 N, .int .i64 base] 23)) 3 (.int .i64 1)
  have hsz : (w.alloc (.cells #[.int .i64 p, .int .i64 N, .int .i64 base] 23)).heap.size = w.heap.size + 1 := by simp
  rw [hsz] at R0
  have rp := fun W => rsPower p m N base base W h hN (by omega)
  have H := hid h
  clear h hsz
  unfold fieldVal at *
  go_enter Try.func44, Try.ntmps44
  have HA0 := hid A0
  have HB0 := hid B0
  have HR0 := hid R0
  clear A0 B0 R0
  go_wp2_with fail
  refine (rp _).mono ?_
  rintro e w1 ⟨rfl, hb1⟩
  have HA1 := hid (HA0.out.below hb1 HA0.out.lt)
  have HR1 := hid (HR0.out.below hb1)
  have HB1 := hid (HB0.out.trans (hb1.mono HB0.out.size))
  have HG0 := hid (gen_zero (base := base) H.out)
  clear hb1 HA0 HB0 HR0 rp
  go_wp2_with fail
  go_loopw [5, 6, 7] (fun ov rv iv wr => ∃ (k : Nat) (Ax : Option Addr) (cx : Nat) (l : List Nat), k ≤ n ∧ iv = .int .i64 k ∧ rv = .int .i64 (ex p m (base + k) : Nat) ∧ ov = .slice Ax l.length cx ∧ l.length ≤ cx ∧ GenL p m base k l ∧ Rd wr Ax l.length (ints l) ∧ Hid (∀ a, Ax = some a → w.heap.size ≤ a.block) ∧ Arr wr w.heap.size 23 [.int .i64 p, .int .i64 N, .int .i64 base] ∧ Below w.heap.size w wr) (fun _ _ iv _ => n - (intOf iv).toNat)
  case atStart => exact ⟨0, _, 1, [1], by omega, rfl, rfl, rfl, by simp, HG0.out, HR1.out, hid (fun a e => by injection e with e; subst e; exact Nat.le_succ _), HA1.out, HB1.out⟩
  case round =>
    clear HA1 HR1 HB1 HG0
    obtain ⟨k, Ax, cx, l, hk, rfl, rfl, rfl, hcx, hG, hR, HAX, hF, hB⟩ := hrel
    have HG := hid hG
    have HR := hid hR
    have HF := hid hF
    have HB := hid hB
    by_cases hlt : k < n
    · have hlt' : (k : Int) < (n : Int) := by omega
      have hx := ex_lt H.out (base + k)
      rw [← hN.out] at hx
      have HST := hid (gen_step H.out hG)
      have hG2 : AllIn m [1, ex p m (base + k)] := fun z hz => by simp at hz; rcases hz with rfl | rfl; exact one_lt H.out; rw [← hN.out]; exact hx
      have hl1 : 1 ≤ l.length := by have := hG.2.2.1; omega
      have hl2 : l.length ≤ 200 := by have := hG.2.2.1; omega
      have pr : ∀ (W : World) (A2 : Option Addr), Rd W Ax l.length (ints l) → Rd W A2 2 (ints [1, ex p m (base + k)]) → Calls Try.prog 18 #[fieldVal p N base, .slice Ax l.length cx, .slice A2 2 2] W (ListOut (tidy (prodL p m l [1, ex p m (base + k)])) W) := fun W A2 h1 h2 =>
        rsProduct p m N base Ax A2 cx 2 l [1, ex p m (base + k)] W H.out hN h1 h2 hl1 (by simp) (by omega) (by simp) hG.2.1 hG2
      have hr1 : Rd (wr.alloc (.cells #[.int .i64 1, .int .i64 (ex p m (base + k) : Nat)] 3)) (some ⟨wr.heap.size, 0, none⟩) 2 (ints [1, ex p m (base + k)]) := Rd.of_arr (Arr.of_new wr 3 #[.int .i64 1, .int .i64 (ex p m (base + k) : Nat)])
      have PR := hid (pr _ _ (HR.out.alloc _) hr1)
      have tm : ∀ W, Calls Try.prog 13 #[fieldVal p N base, .int .i64 (ex p m (base + k) : Nat), .int .i64 2] W (ValOut (.int .i64 (ex p m (base + (k + 1)) : Nat)) W) := fun W => by
        have := rsTimes p m N base (ex p m (base + k)) 2 W H.out hN hx h2
        rwa [show gm p m (ex p m (base + k)) 2 = ex p m (base + (k + 1)) by rw [← ex_one H.out, gm_exex H.out, Nat.add_assoc]] at this
      have BA := hid (show Below wr.heap.size wr (wr.alloc (.cells #[.int .i64 1, .int .i64 (ex p m (base + k) : Nat)] 3)) from (Below.refl _ _).alloc (Nat.le_refl _) _)
      have d0 := hF.cell? 0
      have d1 := hF.cell? 1
      have d2 := hF.cell? 2
      have hFl := hF.lt
      try simp only at d0 d1 d2
      generalize tidy (prodL p m l [1, ex p m (base + k)]) = l2 at *
      generalize ex p m (base + k) = r at *
      clear hG hR hF hB pr hr1 hG2 hx
      unfold fieldVal at *
      go_wp2_with fail
      refine PR.out.mono ?_
      rintro e w6 ⟨A6, c6, rfl, hc6, hR6, hA6, hb6⟩
      have HB56 := hid (BA.out.trans (hb6.mono BA.out.size))
      have S6 := keepF ⟨d0, d1, d2, hFl, HB.out⟩ HB56.out
      have HR6 := hid hR6
      have HA6 := hid (show ∀ a, A6 = some a → w.heap.size ≤ a.block from fun a e => Nat.le_trans HB.out.size (Nat.le_trans BA.out.size (hA6 a e)))
      have HF6 := hid (HF.out.below HB56.out hFl)
      clear hR6 hA6 hb6 d0 d1 d2 hFl PR
      obtain ⟨d0, d1, d2, hFl, hB6⟩ := S6
      have HB6 := hid hB6
      clear hB6
      go_wp2_with fail
      refine (tm _).mono ?_
      rintro e w7 ⟨rfl, hb7⟩
      have HR7 := hid (HR6.out.below hb7)
      have HF7 := hid (HF6.out.below hb7 hFl)
      have HB7 := hid (HB6.out.trans (hb7.mono HB6.out.size))
      clear hb7 d0 d1 d2 tm
      go_wp2_with fail
      go_roundw
      case rel => exact ⟨k + 1, A6, c6, l2, by omega, by go_num, rfl, rfl, hc6, HST.out, HR7.out, HA6, HF7.out, HB7.out⟩
      case measure => simp [intOf]; omega
    · obtain rfl : k = n := by omega
      have hlt' : ¬ (k : Int) < (k : Int) := by omega
      clear hG hR hF hB
      go_wp2_with fail
      go_ret
      exact ⟨l, HG.out, Ax, cx, rfl, hcx, HR.out, HAX.out, HB.out⟩
end Go.Proofs.Ytpkmknbmjlnkgaa
