/- The reference generator and code (turned from the seat of Reed-Solomon). -/
import Derived.Test.YtliephokeafllaaGreatDoorRsD
namespace Go.Proofs.YtliephokeafllaaGreatDoor.Rs
/- The reference's generator and code: it is zero at each root. -/
section
open Go.RowKit
set_option linter.unusedVariables false

/-- A generator with i roots. -/
def GenL (p m base i : Nat) (l : List Nat) : Prop := tidy l = l ∧ AllIn m l ∧ l.length = i + 1 ∧ l.getD 0 0 = 1 ∧ ∀ j, j < i → valAt p m (ex p m (base + j)) l = 0

theorem gen_step {p m base i : Nat} (h : IsGF p m) {l : List Nat} (hl : GenL p m base i l) : GenL p m base (i + 1) (tidy (prodL p m l [1, ex p m (base + i)])) := by
  obtain ⟨hT, hA, hn, h0, hr⟩ := hl
  have hx := ex_lt h (p := p) (m := m) (base + i)
  have hB : AllIn m [1, ex p m (base + i)] := fun z hz => by simp at hz; rcases hz with rfl | rfl; exact one_lt h; exact hx
  have hP := prodL_in h hA hB
  have e0 : (prodL p m l [1, ex p m (base + i)]).getD 0 0 = 1 := by
    rw [prod_head l _ (by omega) (by simp), h0]
    exact gm_one h 1
  have el : (prodL p m l [1, ex p m (base + i)]).length = i + 2 := by rw [prodL_len, hn]; simp
  have eT : tidy (prodL p m l [1, ex p m (base + i)]) = prodL p m l [1, ex p m (base + i)] := tidy_first (.inl (by rw [e0]; decide)) (by omega)
  rw [eT]
  refine ⟨eT, hP, el, e0, fun j hj => ?_⟩
  have hy := ex_lt h (p := p) (m := m) (base + j)
  rw [val_prod h hy hA hB (by simp)]
  have e1 : valAt p m (ex p m (base + j)) [1, ex p m (base + i)] = ex p m (base + j) ^^^ ex p m (base + i) := by
    rw [val_cons h hy (one_lt h) (fun z hz => by rw [List.mem_singleton.1 hz]; exact hx), val_one]
    show gm p m 1 (gm p m 1 _) ^^^ _ = _
    rw [one_gm h hy, one_gm h hy]
  rw [e1]
  rcases (by omega : j < i ∨ j = i) with h1 | h1
  · rw [hr j h1, zero_gm]
  · rw [h1, Nat.xor_self, gm_zero]
theorem gen_zero {p m base : Nat} (h : IsGF p m) : GenL p m base 0 [1] := ⟨rfl, fun z hz => by rw [List.mem_singleton.1 hz]; exact one_lt h, rfl, rfl, fun j hj => by omega⟩

/-- A generator is handed back. -/
def GenOutL (p m base n : Nat) (w : World) (e : Ending) (w' : World) : Prop := ∃ l, GenL p m base n l ∧ ListOut l w e w'

set_option maxRecDepth 20000 in
set_option maxHeartbeats 4000000 in
theorem rsGenerator (p m N base n : Nat) (w : World) (h : IsGF p m) (hN : Hid (N = 2 ^ m)) (hb : base ≤ 1) (hn : n ≤ 2000) :
    Calls Tryz.prog 51 #[fieldVal p N base, .int .i64 n] w (GenOutL p m base n w) := by
  have hN1 : N ≤ 4096 := by rw [hN.out]; exact Nat.pow_le_pow_right (n := 2) (by omega) h.small
  have h2 : 2 < N := by rw [hN.out]; exact two_lt h
  have A0 := (Arr.of_new w 72 #[.int .i64 p, .int .i64 N, .int .i64 base]).alloc (.cells #[.int .i64 1] 3)
  have B0 : Below w.heap.size w ((w.alloc (.cells #[.int .i64 p, .int .i64 N, .int .i64 base] 72)).alloc (.cells #[.int .i64 1] 3)) := ((Below.refl _ _).alloc (Nat.le_refl _) _).alloc (by simp) _
  have R0 := Rd.one (w.alloc (.cells #[.int .i64 p, .int .i64 N, .int .i64 base] 72)) 3 (.int .i64 1)
  have hsz : (w.alloc (.cells #[.int .i64 p, .int .i64 N, .int .i64 base] 72)).heap.size = w.heap.size + 1 := by simp
  rw [hsz] at R0
  have rp := fun W => rsPower p m N base base W h hN (by omega)
  have H := hid h
  clear h hsz
  unfold fieldVal at *
  go_enter Tryz.func51, Tryz.ntmps51
  have HA0 := hid A0
  have HB0 := hid B0
  have HR0 := hid R0
  clear A0 B0 R0
  go_wp2_with fail
  refine (rp _).mono ?_
  rintro e w1 ⟨rfl, hb1⟩
  have HA1 := hid (HA0.out.below hb1 HA0.out.lt)
  have HR1 := hid (HR0.out.below hb1)
  have HB1 := hid (HB0.out.trans (hb1.mono HB0.out.size))
  have HG0 := hid (gen_zero (base := base) H.out)
  clear hb1 HA0 HB0 HR0 rp
  go_wp2_with fail
  go_loopw [5, 6, 7] (fun ov rv iv wr => ∃ (k : Nat) (Ax : Option Addr) (cx : Nat) (l : List Nat), k ≤ n ∧ iv = .int .i64 k ∧ rv = .int .i64 (ex p m (base + k) : Nat) ∧ ov = .slice Ax l.length cx ∧ l.length ≤ cx ∧ GenL p m base k l ∧ Rd wr Ax l.length (ints l) ∧ Hid (∀ a, Ax = some a → w.heap.size ≤ a.block) ∧ Arr wr w.heap.size 72 [.int .i64 p, .int .i64 N, .int .i64 base] ∧ Below w.heap.size w wr) (fun _ _ iv _ => n - (intOf iv).toNat)
  case atStart => exact ⟨0, _, 1, [1], by omega, rfl, rfl, rfl, by simp, HG0.out, HR1.out, hid (fun a e => by injection e with e; subst e; exact Nat.le_succ _), HA1.out, HB1.out⟩
  case round =>
    clear HA1 HR1 HB1 HG0
    obtain ⟨k, Ax, cx, l, hk, rfl, rfl, rfl, hcx, hG, hR, HAX, hF, hB⟩ := hrel
    have HG := hid hG
    have HR := hid hR
    have HF := hid hF
    have HB := hid hB
    by_cases hlt : k < n
    · have hlt' : (k : Int) < (n : Int) := by omega
      have hx := ex_lt H.out (base + k)
      rw [← hN.out] at hx
      have HST := hid (gen_step H.out hG)
      have hG2 : AllIn m [1, ex p m (base + k)] := fun z hz => by simp at hz; rcases hz with rfl | rfl; exact one_lt H.out; rw [← hN.out]; exact hx
      have hl1 : 1 ≤ l.length := by have := hG.2.2.1; omega
      have hl2 : l.length ≤ 4000 := by have := hG.2.2.1; omega
      have pr : ∀ (W : World) (A2 : Option Addr), Rd W Ax l.length (ints l) → Rd W A2 2 (ints [1, ex p m (base + k)]) → Calls Tryz.prog 81 #[fieldVal p N base, .slice Ax l.length cx, .slice A2 2 2] W (ListOut (tidy (prodL p m l [1, ex p m (base + k)])) W) := fun W A2 h1 h2 =>
        rsProduct p m N base Ax A2 cx 2 l [1, ex p m (base + k)] W H.out hN h1 h2 hl1 (by simp) (by omega) (by simp) hG.2.1 hG2
      have hr1 : Rd (wr.alloc (.cells #[.int .i64 1, .int .i64 (ex p m (base + k) : Nat)] 3)) (some ⟨wr.heap.size, 0, none⟩) 2 (ints [1, ex p m (base + k)]) := Rd.of_arr (Arr.of_new wr 3 #[.int .i64 1, .int .i64 (ex p m (base + k) : Nat)])
      have PR := hid (pr _ _ (HR.out.alloc _) hr1)
      have tm : ∀ W, Calls Tryz.prog 79 #[fieldVal p N base, .int .i64 (ex p m (base + k) : Nat), .int .i64 2] W (ValOut (.int .i64 (ex p m (base + (k + 1)) : Nat)) W) := fun W => by
        have := rsTimes p m N base (ex p m (base + k)) 2 W H.out hN hx h2
        rwa [show gm p m (ex p m (base + k)) 2 = ex p m (base + (k + 1)) by rw [← ex_one H.out, gm_exex H.out, Nat.add_assoc]] at this
      have BA := hid (show Below wr.heap.size wr (wr.alloc (.cells #[.int .i64 1, .int .i64 (ex p m (base + k) : Nat)] 3)) from (Below.refl _ _).alloc (Nat.le_refl _) _)
      have d0 := hF.cell? 0
      have d1 := hF.cell? 1
      have d2 := hF.cell? 2
      have hFl := hF.lt
      try simp only at d0 d1 d2
      generalize tidy (prodL p m l [1, ex p m (base + k)]) = l2 at *
      generalize ex p m (base + k) = r at *
      clear hG hR hF hB pr hr1 hG2 hx
      unfold fieldVal at *
      go_wp2_with fail
      refine PR.out.mono ?_
      rintro e w6 ⟨A6, c6, rfl, hc6, hR6, hA6, hb6⟩
      have HB56 := hid (BA.out.trans (hb6.mono BA.out.size))
      have S6 := keepF ⟨d0, d1, d2, hFl, HB.out⟩ HB56.out
      have HR6 := hid hR6
      have HA6 := hid (show ∀ a, A6 = some a → w.heap.size ≤ a.block from fun a e => Nat.le_trans HB.out.size (Nat.le_trans BA.out.size (hA6 a e)))
      have HF6 := hid (HF.out.below HB56.out hFl)
      clear hR6 hA6 hb6 d0 d1 d2 hFl PR
      obtain ⟨d0, d1, d2, hFl, hB6⟩ := S6
      have HB6 := hid hB6
      clear hB6
      go_wp2_with fail
      refine (tm _).mono ?_
      rintro e w7 ⟨rfl, hb7⟩
      have HR7 := hid (HR6.out.below hb7)
      have HF7 := hid (HF6.out.below hb7 hFl)
      have HB7 := hid (HB6.out.trans (hb7.mono HB6.out.size))
      clear hb7 d0 d1 d2 tm
      go_wp2_with fail
      go_roundw
      case rel => exact ⟨k + 1, A6, c6, l2, by omega, by go_num, rfl, rfl, hc6, HST.out, HR7.out, HA6, HF7.out, HB7.out⟩
      case measure => simp [intOf]; omega
    · obtain rfl : k = n := by omega
      have hlt' : ¬ (k : Int) < (k : Int) := by omega
      clear hG hR hF hB
      go_wp2_with fail
      go_ret
      exact ⟨l, HG.out, Ax, cx, rfl, hcx, HR.out, HAX.out, HB.out⟩
end
/- The reference's code of data: it is zero at each root. -/
section
open Go.RowKit
set_option linter.unusedVariables false

/-- A code: n elements, worth nothing at each of ec roots. -/
def CodeL (p m base ec n : Nat) (c : List Nat) : Prop := AllIn m c ∧ c.length = n ∧ ∀ j, j < ec → valAt p m (ex p m (base + j)) c = 0
def codeOf (data lo : List Nat) (ec : Nat) : List Nat := data ++ List.replicate (ec - lo.length) 0 ++ lo

theorem code_ok {p m base ec : Nat} (h : IsGF p m) {data gen lo : List Nat} (hd : AllIn m data) (hg : GenL p m base ec gen) (hlo : RestOk p m 4000 (tidy (shiftl data ec)) gen lo) (hle : lo.length ≤ ec) : CodeL p m base ec (data.length + ec) (codeOf data lo ec) := by
  have hA := hlo.1.2.1
  refine ⟨allIn_app (allIn_app hd (reps_in _)) hA, by simp [codeOf]; omega, fun j hj => ?_⟩
  have hx := ex_lt h (p := p) (m := m) (base + j)
  have h1 := hlo.2 _ hx (hg.2.2.2.2 j hj)
  rw [val_tidy h hx _ (shiftl_in hd ec), val_shiftl h hx hd] at h1
  have hz : AllIn m (List.replicate (ec - lo.length) 0 ++ lo) := allIn_app (reps_in _) hA
  rw [codeOf, List.append_assoc, val_app h hx hd ec _ (by simp; omega) hz, val_app h hx (reps_in _) _ _ rfl hA, val_reps h hx, zero_gm, Nat.zero_xor, h1, Nat.xor_self]

/-- A code is handed back. -/
def CodeOut (p m base ec n : Nat) (data : List Nat) (w : World) (e : Ending) (w' : World) : Prop := ∃ c, CodeL p m base ec n c ∧ (∃ t, c = data ++ t) ∧ ListOut c w e w'

attribute [local go_sem ↓] Go.wp_at_zero Go.wp_at_succ
set_option maxRecDepth 20000 in
set_option maxHeartbeats 4000000 in
theorem rsEncode (p m N base ec n : Nat) (A1 : Option Addr) (c1 : Nat) (data : List Nat) (w : World) (h : IsGF p m) (hN : Hid (N = 2 ^ m)) (hb : base ≤ 1) (hR1 : Rd w A1 n (ints data)) (hd1 : 1 ≤ n) (hd2 : n ≤ 2000) (hA : AllIn m data) (he1 : 1 ≤ ec) (he2 : ec ≤ 2000) :
    Calls Tryz.prog 26 #[fieldVal p N base, .slice A1 n c1, .int .i64 ec] w (CodeOut p m base ec (n + ec) data w) := by
  obtain ⟨i0, hi, hz0, hz1, hz2⟩ := info_parts info3
  have hdl : data.length = n := by have := hR1.1; simpa [ints] using this
  have HDL := hid hdl
  have sh := fun W hr => rsShifted A1 n c1 ec data W hr hd1 (by omega) (by omega)
  have HGS := hid (show Good m 4000 (tidy (shiftl data ec)) from good_tidy h (shiftl_in hA ec) (by rw [shiftl_len]; omega) (by rw [shiftl_len]; omega))
  have HCK := hid (fun gen lo hg hlo hle => code_ok (base := base) (ec := ec) h (data := data) (gen := gen) (lo := lo) hA hg hlo hle)
  generalize tidy (shiftl data ec) = sd at *
  have gn := fun W => rsGenerator p m N base ec W h hN hb he2
  have rr : ∀ (W : World) (As Ag : Option Addr) (cs cg : Nat) (gen : List Nat), GenL p m base ec gen → Rd W As sd.length (ints sd) → Rd W Ag gen.length (ints gen) → sd.length ≤ cs → gen.length ≤ cg → Calls Tryz.prog 49 #[fieldVal p N base, .slice As sd.length cs, .slice Ag gen.length cg] W (RestOut p m 4000 sd gen W) := fun W As Ag cs cg gen hg h1 h2 h3 h4 =>
    rsRest p m N base As Ag cs cg sd gen W h hN h1 h2 HGS.out ⟨hg.1, hg.2.1, by have := hg.2.2.1; omega, by have := hg.2.2.1; omega⟩ (by rw [hg.2.2.2.1]; decide) h3 h4
  have SH := hid sh
  have GN := hid gn
  have RR := hid rr
  have A0 := Arr.of_new w 72 #[.int .i64 p, .int .i64 N, .int .i64 base]
  have B0 : Below w.heap.size w (w.alloc (.cells #[.int .i64 p, .int .i64 N, .int .i64 base] 72)) := (Below.refl _ _).alloc (Nat.le_refl _) _
  have HR1 := hid (hR1.below B0)
  have d0 := A0.cell? 0
  have d1 := A0.cell? 1
  have d2 := A0.cell? 2
  have hFl := A0.lt
  try simp only at d0 d1 d2
  clear sh gn rr hR1 hA hdl h A0
  unfold fieldVal at *
  go_enter Tryz.func26, Tryz.ntmps26
  go_wp2_with fail
  generalize w.alloc (.cells #[.int .i64 p, .int .i64 N, .int .i64 base] 72) = w1 at *
  have b0 := Below.refl w1.heap.size w1
  go_region_held3 (fun w' => w'.cell? ⟨w.heap.size, 0, none⟩ = some (.int .i64 p) ∧ w'.cell? ⟨w.heap.size, 1, none⟩ = some (.int .i64 N) ∧ w'.cell? ⟨w.heap.size, 2, none⟩ = some (.int .i64 base) ∧ w.heap.size < w'.heap.size ∧ Below w1.heap.size w1 w')
    (first | exact ⟨d0, d1, d2, hFl, b0.drew⟩ | exact keepF (by assumption) hb7 | exact keepF (by assumption) hb6 | exact keepF (by assumption) hb5)
    (first
      | (go_at_call 50; ((with_reducible refine (SH.out _ ?_).mono ?_); (exact HR1.out.drew); rintro e w5 ⟨As, cs, rfl, hcs, hRs, hAs, hb5⟩))
      | (go_at_call 51; ((with_reducible refine (GN.out _).mono ?_); rintro e w6 ⟨gen, hgen, Ag, cg, rfl, hcg, hRg, hAg, hb6⟩))
      | (go_at_call 49; ((with_reducible refine (RR.out _ _ _ _ _ _ hgen (hRs.below hb6) hRg hcs hcg).mono ?_); rintro e w7 ⟨lo, hlo, hll, Al, cl, rfl, hcl, hRl, hAl, hb7⟩)))
  have S7 : w7.cell? ⟨w.heap.size, 0, none⟩ = some (.int .i64 p) ∧ w7.cell? ⟨w.heap.size, 1, none⟩ = some (.int .i64 N) ∧ w7.cell? ⟨w.heap.size, 2, none⟩ = some (.int .i64 base) ∧ w.heap.size < w7.heap.size ∧ Below w1.heap.size w1 w7 := by assumption
  have hb17 := S7.2.2.2.2
  have HR7 := hid (HR1.out.below hb17)
  have HRL := hid hRl
  have HB7 := hid (B0.trans (hb17.mono B0.size))
  have hle : lo.length ≤ ec := by
    rcases hll with h1 | h1
    · have := hgen.2.2.1; omega
    · rw [h1]; simpa using he1
  have HCODE := hid (HCK.out gen lo hgen hlo hle)
  have hl1 := hlo.1.2.2.1
  clear S7 hb17 d0 d1 d2 hFl b0 B0 hRs hRg hAs hAg hb5 hb6 hb7 hRl hAl hgen hlo hll hcs hcg SH GN RR HCK HGS HR1
  go_wp2_with (at_builtin; refine wpList_app _ rfl (.tmp 18) (.tmp 19) 25 rfl w7.heap.size 3 i0 _ 8 Tryz.underlying25 hi hz0 hz1 hz2 rfl (.slice (some ⟨w7.heap.size, 0, none⟩) 0 0) [] rfl (Own.lit0 _ _ (Nat.le_refl _)) A1 n c1 (ints data) rfl (HR7.out.alloc _) (ints_one _) (by simp [maxLen]; omega) (by simp; omega) (by simp) ?_)
  intro v1 w8 hO hg _
  have HO8 := hid (show Own w8 w7.heap.size 3 v1 (ints data) from hO)
  have HB8 := hid (show Below w7.heap.size w7 w8 from ((Below.refl _ w7).alloc (Nat.le_refl _) (.cells #[] 3)).grown hg (by simp) (fun j hj => by simp [Value.ownBlock] at hj; omega))
  clear hO hg
  go_wp2_with fail
  go_loopw [8, 9] (fun ov' iv wr => ∃ (k : Nat) (ov : Value), lo.length ≤ k ∧ k ≤ ec ∧ iv = .int .i64 k ∧ ov = ov' ∧ Own wr w7.heap.size 3 ov (ints (data ++ List.replicate (k - lo.length) 0)) ∧ Below w7.heap.size w7 wr) (fun _ iv _ => ec - (intOf iv).toNat)
  case atStart => exact ⟨lo.length, _, Nat.le_refl _, hle, rfl, rfl, by rw [Nat.sub_self]; simpa using HO8.out, HB8.out⟩
  case round =>
    clear HO8 HB8
    obtain ⟨k, ov, hk1, hk, rfl, rfl, hO, hB⟩ := hrel
    have hlen : (ints (data ++ List.replicate (k - lo.length) 0)).length = n + (k - lo.length) := by rw [ints_length, List.length_append, List.length_replicate, HDL.out]
    have HO := hid hO
    have HB := hid hB
    have m1 := hid (show (ints (data ++ List.replicate (k - lo.length) 0)).length + 1 ≤ maxLen by rw [hlen]; unfold maxLen; omega)
    have m2 := hid (show ((ints (data ++ List.replicate (k - lo.length) 0)).length + 1) * 8 ≤ 140737488355328 by rw [hlen]; omega)
    have m3 := hid (show (ints (data ++ List.replicate (k - lo.length) 0)).length + lo.length ≤ maxLen by rw [hlen]; unfold maxLen; omega)
    have m4 := hid (show ((ints (data ++ List.replicate (k - lo.length) 0)).length + lo.length) * 8 ≤ 140737488355328 by rw [hlen]; omega)
    have hS := hid (show w7.heap.size ≤ (wr.alloc (.cells #[.int .i64 0] 3)).heap.size from Nat.le_trans hB.size (by simp))
    clear hO hB hlen
    by_cases hlt : k < ec
    · have hlt' : (k : Int) < (ec : Int) := by omega
      go_wp2_with (at_builtin; refine wpList_app _ rfl (.tmp 28) (.tmp 29) 25 rfl w7.heap.size 3 i0 _ 8 Tryz.underlying25 hi hz0 hz1 hz2 rfl ov (ints (data ++ List.replicate (k - lo.length) 0)) rfl (HO.out.alloc _) (some ⟨wr.heap.size, 0, none⟩) 1 1 [.int .i64 0] rfl (Rd.one _ _ _) (by intro u hu; rw [List.mem_singleton.1 hu]; rfl) m1.out m2.out hS.out ?_)
      intro v2 w9 hO9 hg9 _
      have e9 : ints (data ++ List.replicate (k - lo.length) 0) ++ [Value.int .i64 0] = ints (data ++ List.replicate (k + 1 - lo.length) 0) := by
        rw [show k + 1 - lo.length = (k - lo.length) + 1 from by omega, List.replicate_succ']
        simp [ints]
      rw [e9] at hO9
      have HO9 := hid hO9
      have HB9 := hid (show Below w7.heap.size w7 w9 from (HB.out.alloc HB.out.size (.cells #[.int .i64 0] 3)).grown hg9 (Nat.le_trans HB.out.size (by simp)) (fun r hr => (HO.out.lt r hr).1))
      clear hO9 hg9 e9
      go_wp2_with fail
      go_roundw
      case rel => exact ⟨k + 1, _, by omega, by omega, by go_num, rfl, HO9.out, HB9.out⟩
      case measure => simp [intOf]; omega
    · obtain rfl : k = ec := by omega
      have hlt' : ¬ (k : Int) < (k : Int) := by omega
      have hmx : ¬ (0 : Int) < (lo.length : Int) - (k : Int) := by omega
      have HRL2 := hid (HRL.out.below HB.out)
      go_wp2_with (at_builtin; refine wpList_app _ rfl (.tmp 31) (.tmp 38) 25 rfl w7.heap.size 3 i0 _ 8 Tryz.underlying25 hi hz0 hz1 hz2 rfl ov (ints (data ++ List.replicate (k - lo.length) 0)) rfl HO.out Al lo.length cl (ints lo) rfl HRL2.out (ints_one _) m3.out m4.out HB.out.size ?_)
      intro v2 w9 hO9 hg9 _
      have e9 : ints (data ++ List.replicate (k - lo.length) 0) ++ ints lo = ints (codeOf data lo k) := by simp [ints, codeOf]
      rw [e9] at hO9
      have HO9 := hid hO9
      have HB9 := hid (show Below w7.heap.size w7 w9 from HB.out.grown hg9 HB.out.size (fun r hr => (HO.out.lt r hr).1))
      have HBW := hid (show Below w.heap.size w w9 from HB7.out.trans (HB9.out.mono HB7.out.size))
      have HC2 := hid (show CodeL p m base k (n + k) (codeOf data lo k) by have := HCODE.out; rwa [HDL.out] at this)
      clear hO9 hg9 e9
      go_wp2_with fail
      go_ret
      exact ⟨codeOf data lo k, HC2.out, ⟨_, List.append_assoc _ _ _⟩, listOut_of_own HO9.out HBW.out HB7.out.size⟩
end
end Go.Proofs.YtliephokeafllaaGreatDoor.Rs
