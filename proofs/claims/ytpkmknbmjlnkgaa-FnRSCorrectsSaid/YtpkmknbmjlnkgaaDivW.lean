/- Division of polynomials. -/
import Derived.Test.YtpkmknbmjlnkgaaMulP
import Derived.Test.YtpkmknbmjlnkgaaScalF
import Derived.Deep.LoopGhost
namespace Go.Proofs.Ytpkmknbmjlnkgaa
open Go.RowKit
set_option linter.unusedVariables false

/-- What a division lowers. -/
def meas (l : List Nat) : Nat := if l.getD 0 0 = 0 then 0 else l.length

section
variable {p m : Nat}
theorem scale_in (h : IsGF p m) {c : Nat} {l : List Nat} (hl : AllIn m l) : AllIn m (scaleBy p m c l) := by
  intro x hx
  obtain ⟨y, hy, rfl⟩ := List.mem_map.1 hx
  exact gm_lt h (hl y hy) c
theorem shiftl_in {l : List Nat} (hl : AllIn m l) (d : Nat) : AllIn m (shiftl l d) := by
  intro x hx
  rcases List.mem_append.1 hx with h1 | h1
  · exact hl x h1
  · rw [(List.mem_replicate.1 h1).2]; exact Nat.two_pow_pos m
theorem mono_in (h : IsGF p m) {c : Nat} (hc : c < 2 ^ m) (d : Nat) : AllIn m (monoL c d) := by
  intro x hx
  rcases List.mem_cons.1 hx with h1 | h1
  · rw [h1]; exact hc
  · rw [(List.mem_replicate.1 h1).2]; exact Nat.two_pow_pos m
theorem getD_append0 (a b : List Nat) (h : 1 ≤ a.length) : (a ++ b).getD 0 0 = a.getD 0 0 := by
  rw [List.getD, List.getElem?_append_left (by omega), List.getD]
theorem scale_get (c : Nat) (l : List Nat) (i : Nat) (hi : i < l.length) : (scaleBy p m c l).getD i 0 = gm p m (l.getD i 0) c := by
  simp [scaleBy, List.getD, List.getElem?_eq_getElem hi]
theorem tidy_lt {l : List Nat} (h2 : 2 ≤ l.length) (h0 : l.getD 0 0 = 0) : (tidy l).length < l.length := by
  match l, h2 with
  | 0 :: b :: l, _ =>
    have := (tidy_cases (b :: l)).2.2.2 (by simp)
    simp only [tidy, List.length_cons] at *
    omega
  | (a + 1) :: b :: l, _ => simp at h0

theorem div_term (h : IsGF p m) {r d : List Nat} (hd1 : 1 ≤ d.length) (hr0 : r.getD 0 0 ≠ 0) (hd0 : d.getD 0 0 ≠ 0) (hle : d.length ≤ r.length) (hAr : AllIn m r) (hAd : AllIn m d) :
    tidy (shiftl (scaleBy p m (gm p m (r.getD 0 0) (inv p m (d.getD 0 0))) d) (r.length - d.length)) = shiftl (scaleBy p m (gm p m (r.getD 0 0) (inv p m (d.getD 0 0))) d) (r.length - d.length) ∧
    (shiftl (scaleBy p m (gm p m (r.getD 0 0) (inv p m (d.getD 0 0))) d) (r.length - d.length)).length = r.length ∧
    (shiftl (scaleBy p m (gm p m (r.getD 0 0) (inv p m (d.getD 0 0))) d) (r.length - d.length)).getD 0 0 = r.getD 0 0 := by
  have hlr := getD_lt h hAr 0
  have hld := getD_lt h hAd 0
  have hi := inv_lt h (d.getD 0 0)
  have e0 : (shiftl (scaleBy p m (gm p m (r.getD 0 0) (inv p m (d.getD 0 0))) d) (r.length - d.length)).getD 0 0 = r.getD 0 0 := by
    rw [shiftl, getD_append0 _ _ (by rw [scale_len]; exact hd1), scale_get _ _ _ (by omega), gm_comm h hld (gm_lt h hlr _), gm_assoc h hlr hi hld, gm_comm h hi hld, gm_inv h (by omega) hld, gm_one h]
  have e1 : (shiftl (scaleBy p m (gm p m (r.getD 0 0) (inv p m (d.getD 0 0))) d) (r.length - d.length)).length = r.length := by rw [shiftl_len, scale_len]; omega
  exact ⟨tidy_first (.inl (by rw [e0]; exact hr0)) (by rw [e1]; omega), e1, e0⟩
theorem addL_same {a b : List Nat} (h : a.length = b.length) (h1 : 1 ≤ a.length) : (addL a b).getD 0 0 = a.getD 0 0 ^^^ b.getD 0 0 := by
  unfold addL
  rw [if_neg (by omega), addSL_high (by omega) 0 (by omega) (by omega), Nat.zero_sub]
theorem meas_lt {r t : List Nat} (hr0 : r.getD 0 0 ≠ 0) (hl : t.length = r.length) (h1 : 1 ≤ r.length) (h0 : t.getD 0 0 = r.getD 0 0) : meas (tidy (addL r t)) < meas r ∧ (tidy (addL r t)).length ≤ r.length := by
  have e0 : (addL r t).getD 0 0 = 0 := by rw [addL_same hl.symm h1, h0, Nat.xor_self]
  have el : (addL r t).length = r.length := by rw [addL_len, hl]; omega
  have hm : meas r = r.length := by unfold meas; rw [if_neg hr0]
  rw [hm]
  rcases (by omega : r.length = 1 ∨ 2 ≤ r.length) with h2 | h2
  · have : addL r t = [0] := by
      match addL r t, el.trans h2, e0 with
      | [x], _, h => simp at h; rw [h]
    rw [this, show tidy [0] = [0] from rfl]
    exact ⟨by unfold meas; simp; omega, by simp; omega⟩
  · have h3 := tidy_lt (l := addL r t) (by omega) e0
    refine ⟨?_, by omega⟩
    unfold meas
    split <;> omega
end

set_option maxHeartbeats 1000000 in
theorem buildMonoB (g p m base c d : Nat) (w : World) (hF : IsField w g p m base) (hc : c < 4096) (hd : d ≤ 100000) :
    Calls Try.prog 40 #[fieldPtr g, .int .i64 d, .int .i64 c] w (PtrOk (fieldPtr g) (tidy (monoL c d)) w) := by
  rcases Nat.eq_zero_or_pos c with h0 | h0
  · subst h0
    rw [show monoL 0 d = List.replicate (d + 1) 0 from rfl, tidy_reps]
    obtain ⟨ge, gl, qz, qo, a1, a2, a3, a4, a5⟩ := hF
    have d2 : w.cell? ⟨g, 2, none⟩ = some (.pointer (some ⟨qz, 0, none⟩)) := a1.cell? 2
    have H4 := hid a4
    clear a1 a2 a3 a4 a5
    unfold fieldPtr at *
    show Calls Try.prog 40 #[.pointer (some ⟨g, 0, none⟩), .int .i64 d, .int .i64 0] _ _
    go_enter Try.func40, Try.ntmps40
    go_wp2
    go_ret2
    exact ⟨qz, _, rfl, H4.out, Below.refl _ _⟩
  · obtain ⟨i0, hi, hz0, hz1, hz2⟩ := info_parts info3
    have hmk := fun W => run_make (P := Try.prog) W 30 3 i0 (.int .i64 0) Try.underlying30 hi hz0 .i64 .i64 ((d : Int) + 1) ((d : Int) + 1) (by omega) (by omega) (by rw [hz2]; omega) (by omega)
    simp only [hz1] at hmk
    have hx0 : ((c : Int) == 0) = false := by rw [beq_eq_false_iff_ne]; omega
    have hmc : (madeCells #[Value.int .i64 0] (d + 1)).toList = List.replicate (d + 1) (Value.int .i64 0) := by
      apply List.ext_getElem
      · simp [madeCells]
      · intro i h1 h2
        simp [madeCells, Nat.mod_one]
    have hm0 : (madeCells #[Value.int .i64 0] (d + 1))[0]? = some (.int .i64 0) := by
      rw [← Array.getElem?_toList, hmc]; simp
    have hset : ((madeCells #[Value.int .i64 0] (d + 1)).setIfInBounds 0 (.int .i64 c)).toList = ints (monoL c d) := by
      rw [Array.toList_setIfInBounds, hmc]; simp [ints, monoL, List.replicate_succ]
    have A1 := Arr.of_new w 3 ((madeCells #[Value.int .i64 0] (d + 1)).setIfInBounds 0 (.int .i64 c))
    rw [hset] at A1
    have B1 : Below w.heap.size w (w.alloc (.cells ((madeCells #[Value.int .i64 0] (d + 1)).setIfInBounds 0 (.int .i64 c)) 3)) := (Below.refl _ _).alloc (Nat.le_refl _) _
    have hlen : (ints (monoL c d)).length = d + 1 := by simp [ints, monoL]
    have R1 := Rd.of_arr A1
    rw [hlen] at R1
    have np := newPoly (some ⟨g, 0, none⟩) (some ⟨w.heap.size, 0, none⟩) (d + 1) (d + 1) (monoL c d) w.heap.size _ R1 (by omega) (by omega) (Nat.le_refl _) (fun a e => by injection e with e; subst e; exact Nat.le_refl _) B1.size
    have HS := hid hset
    clear hi hz0 hz1 hz2 hF hset hmc A1 R1
    unfold fieldPtr at *
    go_enter Try.func40, Try.ntmps40
    go_wp2_with fail
    refine np.mono ?_
    rintro e w2 ⟨q2, rfl, hq2, hP2, hB2⟩
    have HP2 := hid hP2
    clear hP2 np hmk hm0
    go_wp2
    go_ret2
    exact ⟨q2, _, rfl, HP2.out, B1.trans (hB2.mono B1.size)⟩

/-- A quotient and a rest are handed back: the rest is shorter than the divisor, or zero. -/
def DivOut (m : Nat) (F : Value) (la ld : Nat) (w : World) (e : Ending) (w' : World) : Prop :=
  ∃ qq qr Br lr, e = .returned (.tuple #[fieldPtr qq, fieldPtr qr, .nilIface]) ∧ IsPoly w' Br qr F lr ∧ tidy lr = lr ∧ AllIn m lr ∧ 1 ≤ lr.length ∧ lr.length ≤ la ∧ (lr.length < ld ∨ lr = [0]) ∧ Below w.heap.size w w'

/-- What holds of a polynomial on the way: its coefficients have no zeros ahead, they are elements, and there are at most so many. -/
def Good (m n : Nat) (l : List Nat) : Prop := tidy l = l ∧ AllIn m l ∧ 1 ≤ l.length ∧ l.length ≤ n

theorem good_tidy {p m : Nat} (h : IsGF p m) {n : Nat} {l : List Nat} (hl : AllIn m l) (h1 : 1 ≤ l.length) (hn : l.length ≤ n) : Good m n (tidy l) :=
  ⟨tidy_tidy l, tidy_in h hl, (tidy_cases l).1, tidy_len_le h1 hn⟩
theorem Good.mono {m n n' : Nat} {l : List Nat} (h : Good m n l) (hn : n ≤ n') : Good m n' l := ⟨h.1, h.2.1, h.2.2.1, Nat.le_trans h.2.2.2 hn⟩
theorem good_add {p m : Nat} (h : IsGF p m) {n : Nat} {a b : List Nat} (ha : Good m n a) (hb : Good m n b) : Good m n (tidy (addL a b)) :=
  good_tidy h (addL_in h ha.2.1 hb.2.1) (by rw [addL_len]; have := ha.2.2.1; omega) (by rw [addL_len]; have := ha.2.2.2; have := hb.2.2.2; omega)
theorem good_zero {p m : Nat} (h : IsGF p m) : Good m 1 [0] := ⟨rfl, fun x hx => by rw [List.mem_singleton.1 hx]; exact Nat.two_pow_pos m, by simp, by simp⟩

attribute [local go_sem ↓] Go.wp_at_zero Go.wp_at_succ
set_option maxRecDepth 100000 in
set_option maxHeartbeats 4000000 in
theorem divide (q1 q2 g p m base B1 B2 : Nat) (a d : List Nat) (w : World) (h : IsGF p m) (hF : IsField w g p m base) (hP1 : IsPoly w B1 q1 (fieldPtr g) a) (hP2 : IsPoly w B2 q2 (fieldPtr g) d) (hGa : Good m 1000 a) (hGd : Good m 1000 d) (h2 : d.getD 0 0 ≠ 0) :
    Calls Try.prog 54 #[fieldPtr q1, fieldPtr q2] w (DivOut m (fieldPtr g) a.length d.length w) := by
  have hN1 : 2 ^ m ≤ 4096 := Nat.pow_le_pow_right (n := 2) (by omega) h.small
  obtain ⟨hTa, hAa, ha1, ha⟩ := hGa
  obtain ⟨hTd, hAd, hd1, hd⟩ := hGd
  have l1 := hP1.lt
  have l2 := hP2.lt
  obtain ⟨ba, oa, ca, c0, c1, hca, hRa, hcapa, hla⟩ := hP1.coefR ha1
  obtain ⟨bb, ob, cb, e0, e1, hcb, hRb, hcapb, hlb⟩ := hP2.coefR hd1
  have z' : ∀ n, Calls Try.prog 68 #[fieldPtr q2] (w.drewN n) (SameOut (.bool false) (w.drewN n)) := fun n => isZeroF q2 B2 _ d (w.drewN n) hP2 hd1 (by omega) h2
  have gz : ∀ n, Calls Try.prog 51 #[fieldPtr g] (w.drewN n) (PtrOut (fieldPtr g) [0] (w.drewN n)) := fun n => getZero g p m base (w.drewN n) hF
  have HF := hid hF
  have HP1 := hid hP1
  have HP2 := hid hP2
  have HC0 := hid c0
  have HTD := hid hTd
  have HTA := hid hTa
  have HAA := hid hAa
  have HAD := hid hAd
  have H2 := hid h2
  have H := hid h
  clear hca hRa hcapa hcb hRb hcapb c1 e1 hP1 hP2 hF hTa hTd hAa hAd h2 h
  have hneq := neqF g
  unfold fieldPtr at *
  go_enter Try.func54, Try.ntmps54
  go_wp2_with fail
  go_quiet (fail)
  clear hneq
  go_wp2_with fail
  refine (z' _).mono ?_
  rintro e w1 ⟨rfl, rfl⟩
  clear z'
  go_wp2_with fail
  refine (gz _).mono ?_
  rintro e w1 ⟨qz, Bz, rfl, hz, hb⟩
  have HB1 := hid ((below_drewN (Below.refl w.heap.size w) _).trans hb)
  have HPZ := hid hz
  clear hz gz hb e0 c0
  have HD1 := hid (HP2.out.below HB1.out)
  have dg := degree q2 B2 _ d w1 HD1.out hd1 (by omega)
  unfold fieldPtr at *
  go_wp2_with fail
  refine dg.mono ?_
  rintro e w1 ⟨rfl, rfl⟩
  have gc := getCoefficient q2 (d.length - 1) B2 _ d w1 HD1.out (by omega) (by omega)
  rw [show d.length - 1 - (d.length - 1) = 0 from by omega] at gc
  have hd0 := getD_lt H.out HAD.out 0
  have H2' : 0 < d.getD 0 0 := Nat.pos_of_ne_zero H2.out
  have iv := fun n => inverse g p m base (d.getD 0 0) (w1.drewN n) H.out (HF.out.below (below_drewN HB1.out n)) H2' hd0
  have hil := inv_lt H.out (d.getD 0 0)
  generalize hD0 : d.getD 0 0 = D0 at *
  have HD0 := hid hD0
  clear hD0 dg H2'
  unfold fieldPtr at *
  go_wp2_with fail
  refine gc.mono ?_
  rintro e w1' ⟨rfl, n1, rfl⟩
  clear gc
  have k0 := ((below_drewN HB1.out n1).cell (p := ⟨q1, 0, none⟩) l1).trans HC0.out
  go_wp2_with fail
  refine (iv _).mono ?_
  rintro e w2 ⟨rfl, n2, rfl⟩
  clear iv k0
  have HB2 := hid (below_drewN (below_drewN HB1.out n1) n2)
  have HPZ2 := hid (show IsPoly ((w1.drewN n1).drewN n2) Bz qz (.pointer (some ⟨g, 0, none⟩)) [0] from HPZ.out)
  clear HB1 HPZ HD1
  generalize (w1.drewN n1).drewN n2 = w2 at *
  go_wp2_with fail
  have hGa := hid (show Good m a.length a from ⟨HTA.out, HAA.out, ha1, Nat.le_refl _⟩)
  have hGz := hid (show Good m 1000 [0] from (good_zero H.out).mono (by omega))
  go_loopg [4, 5] (meas a) (fun gk qv rv wr => ∃ qq Bq lq qr Br lr, qv = .pointer (some ⟨qq, 0, none⟩) ∧ rv = .pointer (some ⟨qr, 0, none⟩) ∧ IsPoly wr Bq qq (.pointer (some ⟨g, 0, none⟩)) lq ∧ IsPoly wr Br qr (.pointer (some ⟨g, 0, none⟩)) lr ∧ Good m 1000 lq ∧ Good m a.length lr ∧ meas lr ≤ gk ∧ Below w.heap.size w wr)
  case atStart => exact ⟨qz, Bz, [0], q1, B1, a, rfl, rfl, HPZ2.out, HP1.out.below HB2.out, hGz.out, hGa.out, Nat.le_refl _, HB2.out⟩
  case round =>
    obtain ⟨qq, Bq, lq, qr, Br, lr, rfl, rfl, hQ, hR, hGq, hGr, hm, hB⟩ := hrel
    obtain ⟨hTr, hAr, hr1, hr⟩ := hGr
    have hP2w := HP2.out.below hB
    have k0 := (hB.cell (p := ⟨q1, 0, none⟩) l1).trans HC0.out
    have dgr := fun n => degree qr Br _ lr (wr.drewN n) hR hr1 (by omega)
    have dgd := degree q2 B2 _ d wr hP2w hd1 (by omega)
    have HQ := hid hQ
    have HR := hid hR
    have HGQ := hid hGq
    have HTR := hid hTr
    have HAR := hid hAr
    have HB := hid hB
    have HM := hid hm
    by_cases hlt : lr.length < d.length
    · have hlt' : ¬ ((d.length - 1 : Nat) : Int) ≤ ((lr.length - 1 : Nat) : Int) := by omega
      have dg0 := dgr 0
      clear hQ hR hGq hTr hAr hB hm hP2w k0 dgr
      unfold fieldPtr at *
      go_wp2_with fail
      refine dg0.mono ?_
      rintro e w3 ⟨rfl, rfl⟩
      go_wp2_with fail
      refine dgd.mono ?_
      rintro e w3 ⟨rfl, rfl⟩
      clear dg0 dgd
      go_wp2_with fail
      go_ret3
      exact ⟨qq, qr, Br, lr, rfl, HR.out, HTR.out, HAR.out, hr1, hr, .inl hlt, HB.out⟩
    · have hlt' : ((d.length - 1 : Nat) : Int) ≤ ((lr.length - 1 : Nat) : Int) := by omega
      have dg0 := dgr 0
      by_cases hz : lr.getD 0 0 = 0
      · have iz := isZeroT qr Br _ lr wr hR hr1 (by omega) hz
        have HZ := hid (tidy_zero hTr hr1 hz)
        clear hQ hR hGq hTr hAr hB hm hP2w k0 dgr hz
        unfold fieldPtr at *
        go_wp2_with fail
        refine dg0.mono ?_
        rintro e w3 ⟨rfl, rfl⟩
        go_wp2_with fail
        refine dgd.mono ?_
        rintro e w3 ⟨rfl, rfl⟩
        clear dg0 dgd
        go_wp2_with fail
        refine iz.mono ?_
        rintro e w3 ⟨rfl, rfl⟩
        clear iz
        go_wp2_with fail
        go_ret3
        exact ⟨qq, qr, Br, lr, rfl, HR.out, HTR.out, HAR.out, hr1, hr, .inr HZ.out, HB.out⟩
      · have iz := isZeroF qr Br _ lr wr hR hr1 (by omega) hz
        have HDT := hid (div_term H.out (r := lr) (d := d) hd1 hz (by rw [HD0.out]; exact H2.out) (by omega) hAr HAD.out)
        rw [HD0.out] at HDT
        have hr0 := getD_lt H.out hAr 0
        have HMM := hid (fun t e1 e2 => meas_lt (r := lr) (t := t) hz e1 hr1 e2)
        have gcq : ∀ n, Calls Try.prog 49 #[fieldPtr qr, .int .i64 ((lr.length - 1 : Nat) : Int)] (wr.drewN n) (DrewOut (.int .i64 (lr.getD 0 0 : Nat)) (wr.drewN n)) := fun n => by
          have := getCoefficient qr (lr.length - 1) Br _ lr (wr.drewN n) hR (by omega) (by omega)
          rwa [show lr.length - 1 - (lr.length - 1) = 0 from by omega] at this
        have muq := fun n => multiply g p m base (lr.getD 0 0) (inv p m D0) (wr.drewN n) H.out (HF.out.below (below_drewN hB n)) hr0 hil
        have hsl := gm_lt H.out hr0 (inv p m D0)
        obtain ⟨dd, hdd⟩ : ∃ dd, dd = lr.length - d.length := ⟨_, rfl⟩
        have HDD := hid hdd
        have hdi : ((lr.length - 1 : Nat) : Int) - ((d.length - 1 : Nat) : Int) = (dd : Int) := by omega
        have hddl : dd + 1 ≤ a.length := by omega
        have HDI := hid hdi
        rw [← hdd] at HDT
        clear hQ hR hGq hTr hAr hB hm hP2w hdd
        generalize hs : gm p m (lr.getD 0 0) (inv p m D0) = s at *
        generalize lr.getD 0 0 = r0 at *
        clear hdi hz hs
        have nr1 : lr.length - 1 ≤ 1000 := by omega
        have nd1 : d.length - 1 ≤ 1000 := by omega
        have nrr := HDI.out
        generalize hnr : lr.length - 1 = nr at *
        generalize hnd : d.length - 1 = nd at *
        have HNR := hid nrr
        clear nrr hnr hnd HDI
        unfold fieldPtr at *
        go_wp2_with fail
        refine dg0.mono ?_
        rintro e w3 ⟨rfl, rfl⟩
        go_wp2_with fail
        refine dgd.mono ?_
        rintro e w3 ⟨rfl, rfl⟩
        go_wp2_with fail
        refine iz.mono ?_
        rintro e w3 ⟨rfl, rfl⟩
        clear iz
        go_wp2_with fail
        refine dg0.mono ?_
        rintro e w3 ⟨rfl, rfl⟩
        clear dg0
        go_wp2_with fail
        refine dgd.mono ?_
        rintro e w3 ⟨rfl, rfl⟩
        clear dgd
        go_wp2_with fail
        go_quiet ((first | (go_at_call 31; exact (muq _).mono fun _ _ hh => ⟨hh.1, by obtain ⟨n2, hn2⟩ := hh.2; exact ⟨_, hn2.trans (World.drewN_drewN _ _ _)⟩⟩) | (go_at_call 49; exact (gcq _).mono fun _ _ hh => ⟨hh.1, by obtain ⟨n2, hn2⟩ := hh.2; exact ⟨_, hn2.trans (World.drewN_drewN _ _ _)⟩⟩) | (go_at_call 69; exact (dgr _).mono fun _ _ hh => ⟨hh.1, _, hh.2.symm⟩)))
        clear gcq muq dgr k0
        generalize hw4 : wr.drewN _ = w4 at *
        have HB4 := hid (show Below w.heap.size w w4 from by rw [← hw4]; exact below_drewN HB.out _)
        have HQ4 := hid (show IsPoly w4 Bq qq _ lq from by rw [← hw4]; exact HQ.out)
        have HR4 := hid (show IsPoly w4 Br qr _ lr from by rw [← hw4]; exact HR.out)
        clear hw4 HQ HR HB
        have mm : Calls Try.prog 39 #[fieldPtr q2, .int .i64 ((nr : Int) - (nd : Int)), .int .i64 s] w4 (PtrOk (fieldPtr g) (shiftl (scaleBy p m s d) dd) w4) := by
          rw [HNR.out, ← HDT.out.1]
          exact mulMono q2 g p m base B2 s dd d w4 H.out (HF.out.below HB4.out) (HP2.out.below HB4.out) hd1 (by omega) HAD.out hsl (by omega)
        have HTI := hid (shiftl_in (scale_in (c := s) H.out HAD.out) dd)
        obtain ⟨t1, t2, t3⟩ := HDT.out
        have HTL := hid t2
        have HM2 := hid (HMM.out _ t2 t3)
        have HGT := hid (show Good m a.length (shiftl (scaleBy p m s d) dd) from ⟨t1, HTI.out, by rw [t2]; omega, by rw [t2]; exact hr⟩)
        clear t1 t2 t3 HDT HMM HTI
        generalize shiftl (scaleBy p m s d) dd = T at *
        unfold fieldPtr at *
        go_wp2_with fail
        refine mm.mono ?_
        rintro e w5 ⟨qt, Bt, rfl, hT, hb5⟩
        clear mm
        have HT5 := hid hT
        have HB5 := hid (HB4.out.trans (hb5.mono HB4.out.size))
        have HQ5 := hid (HQ4.out.below hb5)
        have HR5 := hid (HR4.out.below hb5)
        clear hT hb5 HB4 HQ4 HR4
        have bm : Calls Try.prog 40 #[fieldPtr g, .int .i64 ((nr : Int) - (nd : Int)), .int .i64 s] w5 (PtrOk (fieldPtr g) (tidy (monoL s dd)) w5) := by
          rw [HNR.out]
          exact buildMonoB g p m base s dd w5 (HF.out.below HB5.out) (by omega) (by omega)
        have HGM := hid (show Good m 1000 (tidy (monoL s dd)) from good_tidy H.out (mono_in H.out hsl dd) (by simp [monoL]) (by simp [monoL]; omega))
        have k0 := (HB5.out.cell (p := ⟨q1, 0, none⟩) l1).trans HC0.out
        generalize tidy (monoL s dd) = M at *
        unfold fieldPtr at *
        go_wp2_with fail
        refine bm.mono ?_
        rintro e w6 ⟨qm, Bm, rfl, hM, hb6⟩
        clear bm k0
        have HM6 := hid hM
        have HB6 := hid (HB5.out.trans (hb6.mono HB5.out.size))
        have HQ6 := hid (HQ5.out.below hb6)
        have HR6 := hid (HR5.out.below hb6)
        have HT6 := hid (HT5.out.below hb6)
        clear hM hb6 HB5 HQ5 HR5 HT5
        have ad := addSub qq qm g p m base Bq Bm lq M w6 H.out HQ6.out HM6.out HGQ.out.2.2.1 HGM.out.2.2.1 (by have := HGQ.out.2.2.2; omega) (by have := HGM.out.2.2.2; omega) HGQ.out.2.1 HGM.out.2.1 HGQ.out.1 HGM.out.1
        have HGQ2 := hid (good_add H.out HGQ.out HGM.out)
        generalize tidy (addL lq M) = lq2 at *
        unfold fieldPtr at *
        go_wp2_with fail
        refine ad.mono ?_
        rintro e w7 ⟨qq2, Bq2, rfl, hQ2, hb7⟩
        clear ad
        have HQ7 := hid hQ2
        have HB7 := hid (HB6.out.trans (hb7.mono HB6.out.size))
        have HR7 := hid (HR6.out.below hb7)
        have HT7 := hid (HT6.out.below hb7)
        clear hQ2 hb7 HB6 HQ6 HR6 HT6 HM6
        have hG1 : Good m a.length lr := ⟨HTR.out, HAR.out, hr1, hr⟩
        have ad := addSub qr qt g p m base Br Bt lr T w7 H.out HR7.out HT7.out hr1 HGT.out.2.2.1 (by omega) (by have := HGT.out.2.2.2; omega) HAR.out HGT.out.2.1 HTR.out HGT.out.1
        have HGR2 := hid (good_add H.out hG1 HGT.out)
        clear hG1
        generalize tidy (addL lr T) = lr2 at *
        unfold fieldPtr at *
        go_wp2_with fail
        refine ad.mono ?_
        rintro e w8 ⟨qr2, Br2, rfl, hR2, hb8⟩
        clear ad
        have HQ8 := hid (HQ7.out.below hb8)
        have HR8 := hid hR2
        have HB8 := hid (HB7.out.trans (hb8.mono HB7.out.size))
        clear hR2 hb8 HB7 HQ7 HR7 HT7
        go_wp2_with fail
        go_roundg (meas lr2)
        case measure => have := HM2.out.1; have := HM.out; omega
        case rel => exact ⟨qq2, Bq2, lq2, qr2, Br2, lr2, rfl, rfl, HQ8.out, HR8.out, HGQ2.out, HGR2.out, Nat.le_refl _, HB8.out⟩
end Go.Proofs.Ytpkmknbmjlnkgaa
