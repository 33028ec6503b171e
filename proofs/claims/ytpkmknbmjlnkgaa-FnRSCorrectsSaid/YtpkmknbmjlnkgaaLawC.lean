/- FnRSScales: the walk of the law. -/
import Derived.Test.YtpkmknbmjlnkgaaScalF
import Derived.Test.YtpkmknbmjlnkgaaProd
namespace Go.Proofs.Ytpkmknbmjlnkgaa
open Go.RowKit
set_option linter.unusedVariables false

theorem prod_one (p m c : Nat) (l : List Nat) : ∀ i, i ≤ l.length → prodTo p m l [c] i = (scaleBy p m c l).take i ++ List.replicate (l.length - i) 0
  | 0, _ => by simp [prodTo]
  | i + 1, h => by
    have ih := prod_one p m c l i (by omega)
    have hs := fill_set (scaleBy p m c l) l.length i (scale_len p m c l) (by omega)
    rw [prodTo, ih, ← hs]
    have hl : ((scaleBy p m c l).take i).length = i := by rw [List.length_take, scale_len]; omega
    have h0 : ((scaleBy p m c l).take i ++ List.replicate (l.length - i) 0).getD i 0 = 0 := by
      rw [List.getD, List.getElem?_append_right (by omega), hl]
      simp only [Nat.sub_self, List.getElem?_replicate]
      split <;> rfl
    have h1 : (scaleBy p m c l).getD i 0 = gm p m (l.getD i 0) c := by
      simp [scaleBy, List.getD, List.getElem?_eq_getElem (show i < l.length by omega)]
    show rowTo p m (l.getD i 0) [c] i _ 1 = _
    simp only [rowTo, Nat.add_zero]
    rw [h0, h1, Nat.zero_xor]
    rfl
theorem prodL_one (p m c : Nat) (l : List Nat) : prodL p m l [c] = scaleBy p m c l := by
  rw [prodL, prod_one p m c l l.length (Nat.le_refl _), List.take_of_length_le (by rw [scale_len]; exact Nat.le_refl _), Nat.sub_self]
  simp

theorem bn_t : (true != true) = false := rfl

set_option maxHeartbeats 4000000 in
theorem scales_pos (w : World) (n : Nat) (hn : n ≤ 255) (A : Option Addr) (len cap : Nat) (zs : List Int) (hS : SlIn w A len cap (zs.map (Value.int .i64))) (hz : ∀ j, -9223372036854775808 ≤ zs.getD j 0 ∧ zs.getD j 0 ≤ 9223372036854775807) (x : Int) (hx0 : -9223372036854775808 ≤ x) (hx1 : x ≤ 9223372036854775807) (d : Nat) (hd : d ≤ 127) :
    Calls Try.prog 6 #[.int .u8 n, .slice A len cap, .int .i64 x, .int .i8 d] w fun e w' => e = .returned (.bool true) ∧ Below w.heap.size w w' := by
  have hR := hS.rd
  obtain ⟨_, _, hcm, _⟩ := hS
  unfold maxLen at hcm
  by_cases hbig : (2147483647 : Int) < len
  · go_enter Try.func6, Try.ntmps6
    go_wp2
    go_ret
    exact ⟨rfl, Below.refl _ _⟩
  have h := fGF (n % 6)
  have hB1 := fB_le (n % 6)
  have hfld := fun W => rsField n hn W
  generalize fP (n % 6) = p at *
  generalize fB (n % 6) = base at *
  generalize fM (n % 6) = m at *
  obtain ⟨N, hN⟩ : ∃ N, N = 2 ^ m := ⟨_, rfl⟩
  rw [← hN] at hfld
  have HN := hid hN
  have hN1 : N ≤ 4096 := by rw [hN]; exact Nat.pow_le_pow_right (n := 2) (by omega) h.small
  have hN0 : 4 ≤ N := by rw [hN]; exact Nat.pow_le_pow_right (n := 2) (by omega) h.pos
  have hin := elems_in hN (by omega) zs (min len 40)
  have hel : (elems N zs (min len 40)).length ≤ 40 := by unfold elems; rw [List.length_map, List.length_take]; omega
  have rp : ∀ W, Rd W A len (zs.map (Value.int .i64)) → Calls Try.prog 15 #[fieldVal p N base, .slice A len cap, .int .i64 40] W (ListOut (tidy (elems N zs (min len 40))) W) := fun W hR => rsPoly p N base A len cap zs 40 W (by omega) (by omega) hR (by omega) (by omega) hz
  generalize elems N zs (min len 40) = l0 at *
  obtain ⟨t1, _, _, t4⟩ := tidy_cases l0
  have htl : (tidy l0).length ≤ 40 := by
    rcases Nat.eq_zero_or_pos l0.length with e0 | e0
    · rw [List.eq_nil_of_length_eq_zero e0]; decide
    · have := t4 e0; omega
  have hT := tidy_in h hin
  have hTT := tidy_tidy l0
  generalize tidy l0 = l at *
  have rx := fun W => rsElement p N base x W (by omega) (by omega) hx0 hx1
  have hxN := elemOf_lt N x (by omega)
  generalize elemOf N x = y at *
  have HR := hid hR
  have HT := hid hT
  have HTT := hid hTT
  have H := hid h
  have Hrp := hid rp
  clear hR hT hin hel t4 hTT h hN rp
  unfold fieldVal at *
  go_enter Try.func6, Try.ntmps6
  go_wp2_with fail
  refine (hfld _).mono ?_
  rintro e w1 ⟨rfl, hBl⟩
  clear hfld
  go_wp2_with fail
  have A0 := Arr.of_new w1 23 #[.int .i64 p, .int .i64 N, .int .i64 base]
  have B0 : Below w.heap.size w (w1.alloc (.cells #[.int .i64 p, .int .i64 N, .int .i64 base] 23)) := hBl.alloc hBl.size _
  have d0 := A0.cell? 0
  have d1 := A0.cell? 1
  have d2 := A0.cell? 2
  have hlt := A0.lt
  try simp only at d0 d1 d2
  generalize w1.heap.size = g at *
  generalize w1.alloc (.cells #[.int .i64 p, .int .i64 N, .int .i64 base] 23) = w2 at *
  clear A0 hBl
  go_region_held3 (fun w' => w'.cell? ⟨g, 0, none⟩ = some (.int .i64 p) ∧ w'.cell? ⟨g, 1, none⟩ = some (.int .i64 N) ∧ w'.cell? ⟨g, 2, none⟩ = some (.int .i64 base) ∧ g < w'.heap.size ∧ Below w.heap.size w w') (first | exact ⟨d0, d1, d2, hlt, B0.drew⟩ | exact keepF (by assumption) hb5 | exact keepF (by assumption) hb6)
    (first
      | (go_at_call 15; ((with_reducible refine (Hrp.out _ ?_).mono ?_); (first | exact (HR.out.below B0).drew | exact ((HR.out.below B0).drew).below hb6); rintro e w5 ⟨A1, c1, rfl, hc1, hR1, hA1, hb5⟩))
      | (go_at_call 11; ((with_reducible refine (rx _).mono ?_); rintro e w6 ⟨rfl, hb6⟩)))
  have S6 : w6.cell? ⟨g, 0, none⟩ = some (.int .i64 p) ∧ w6.cell? ⟨g, 1, none⟩ = some (.int .i64 N) ∧ w6.cell? ⟨g, 2, none⟩ = some (.int .i64 base) ∧ g < w6.heap.size ∧ Below w.heap.size w w6 := by assumption
  have HR6 := hid (hR1.below hb6)
  clear hR1 d0 d1 d2 hb5 hb6 hA1
  have rpr : ∀ (W : World) (A2 : Option Addr), Rd W A1 l.length (ints l) → Rd W A2 1 (ints [y]) → Calls Try.prog 18 #[fieldVal p N base, .slice A1 l.length c1, .slice A2 1 1] W (ListOut (tidy (scaleBy p m y l)) W) := fun W A2 h1 h2 => by
    rw [← prodL_one]
    exact rsProduct p m N base A1 A2 c1 1 l [y] W H.out HN h1 h2 t1 (by simp) (by omega) (by simp) HT.out (fun z hz => by rw [List.mem_singleton.1 hz, ← HN.out]; exact hxN)
  have rs1 : ∀ W : World, Rd W A1 l.length (ints l) → Calls Try.prog 19 #[fieldVal p N base, .slice A1 l.length c1, .int .i64 y] W (ListOk (tidy (scaleBy p m y l)) W) := fun W h1 => implScaled p m N base y A1 l.length c1 l W H.out HN hB1 h1 t1 (by omega) hxN HT.out HTT.out
  have rs2 : ∀ W : World, Rd W A1 l.length (ints l) → Calls Try.prog 20 #[fieldVal p N base, .slice A1 l.length c1, .int .i64 d, .int .i64 y] W (ListOk (tidy (shiftl (scaleBy p m y l) d)) W) := fun W h1 => implShifted p m N base y d A1 l.length c1 l W H.out HN hB1 h1 t1 (by omega) hxN HT.out HTT.out (by omega)
  have rs3 : ∀ W : World, Calls Try.prog 21 #[fieldVal p N base, .int .i64 d, .int .i64 y] W (ListOk (tidy (shiftl [y] d)) W) := fun W => implMono p m N base y d W H.out HN hB1 hxN (by omega) hd
  have q1 : 1 ≤ (tidy (scaleBy p m y l)).length := (tidy_cases _).1
  have q2 : (tidy (scaleBy p m y l)).length ≤ 40 := tidy_len_le (by rw [scale_len]; exact t1) (by rw [scale_len]; exact htl)
  have q3 := hid (tidy_app (List.replicate d 0) (scaleBy p m y l) (by rw [scale_len]; exact t1))
  have q4 : (tidy (shiftl (scaleBy p m y l) d)).length ≤ 1000000 := tidy_len_le (by rw [shiftl_len, scale_len]; omega) (by rw [shiftl_len, scale_len]; omega)
  have q5 : (tidy (shiftl [y] d)).length ≤ 1000000 := tidy_len_le (by rw [shiftl_len]; simp) (by rw [shiftl_len]; simp; omega)
  have rsh1 : ∀ (W : World) (Ab : Option Addr) (cb : Nat), Rd W Ab (tidy (scaleBy p m y l)).length (ints (tidy (scaleBy p m y l))) → Calls Try.prog 23 #[.slice Ab (tidy (scaleBy p m y l)).length cb, .int .i64 d] W (ListOut (tidy (shiftl (scaleBy p m y l) d)) W) := fun W Ab cb h1 => by
    have := rsShifted Ab _ cb d (tidy (scaleBy p m y l)) W h1 q1 (by omega) (by omega)
    rwa [show tidy (shiftl (tidy (scaleBy p m y l)) d) = tidy (shiftl (scaleBy p m y l) d) from q3.out] at this
  have rsh2 : ∀ (W : World) (Ab : Option Addr), Rd W Ab 1 (ints [y]) → Calls Try.prog 23 #[.slice Ab 1 1, .int .i64 d] W (ListOut (tidy (shiftl [y] d)) W) := fun W Ab h1 => rsShifted Ab 1 1 d [y] W h1 (by omega) (by omega) (by omega)
  clear q3
  generalize tidy (scaleBy p m y l) = L1 at *
  generalize tidy (shiftl (scaleBy p m y l) d) = L2 at *
  generalize tidy (shiftl [y] d) = L3 at *
  have P1 := hid rpr
  have P2 := hid rs1
  have P3 := hid rs2
  have P4 := hid rs3
  have P5 := hid rsh1
  have P6 := hid rsh2
  clear rpr rs1 rs2 rs3 rsh1 rsh2 Hrp rx
  obtain ⟨d0, d1, d2, hlt6, hB6⟩ := S6
  have one := fun W : World => Rd.one W 3 (.int .i64 y)
  have P7 := hid one
  clear one
  unfold fieldVal at *
  go_wp2_with fail
  refine (P1.out _ _ (HR6.out.alloc _) (P7.out _)).mono ?_
  rintro e w7 ⟨Ab, cb, rfl, hcb, hRb, hAb, hb7⟩
  have hb7' : Below w6.heap.size w6 w7 := ((Below.refl _ w6).alloc (Nat.le_refl _) _).trans (hb7.mono (by simp))
  have S7 := keepF ⟨d0, d1, d2, hlt6, hB6⟩ hb7'
  have HR7 := hid (HR6.out.below hb7')
  have HRb := hid hRb
  clear hb7 hb7' hRb hAb d0 d1 d2 hB6 HR6 hlt6
  obtain ⟨d0, d1, d2, hlt6, hB6⟩ := S7
  go_wp2_with fail
  refine (P2.out _ HR7.out).mono ?_
  rintro e w8 ⟨As, cs, rfl, hcs, hRs, hb8⟩
  have S8 := keepF ⟨d0, d1, d2, hlt6, hB6⟩ hb8
  have HR8 := hid (HR7.out.below hb8)
  have HRb8 := hid (HRb.out.below hb8)
  have HRs := hid hRs
  clear hRs hb8 d0 d1 d2 hB6 hlt6 HR7 HRb
  obtain ⟨d0, d1, d2, hlt6, hB6⟩ := S8
  go_wp2_with fail
  refine (P3.out _ HR8.out).mono ?_
  rintro e w9 ⟨At, ct, rfl, hct, hRt, hb9⟩
  have S9 := keepF ⟨d0, d1, d2, hlt6, hB6⟩ hb9
  have HRb9 := hid (HRb8.out.below hb9)
  have HRs9 := hid (HRs.out.below hb9)
  have HRt := hid hRt
  clear hRt hb9 d0 d1 d2 hB6 hlt6 HR8 HRb8 HRs
  obtain ⟨d0, d1, d2, hlt6, hB6⟩ := S9
  go_wp2_with fail
  refine (P4.out _).mono ?_
  rintro e w10 ⟨Am, cm, rfl, hcm2, hRm, hb10⟩
  have hB10 := hB6.trans (hb10.mono hB6.size)
  have HRb10 := hid (HRb9.out.below hb10)
  have HRs10 := hid (HRs9.out.below hb10)
  have HRt10 := hid (HRt.out.below hb10)
  have HRm := hid hRm
  clear hRm hb10 d0 d1 d2 hB6 hlt6 HRb9 HRs9 HRt
  go_wp2_with fail
  refine (rsSame As Ab L1.length cs cb L1 _ HRs10.out HRb10.out (by omega)).mono ?_
  rintro e w11 ⟨rfl, n11, rfl⟩
  have hB11 := below_drewN hB10 n11
  clear hB10
  have HRb11 := hid (HRb10.out.drewN n11)
  have HRt11 := hid (HRt10.out.drewN n11)
  have HRm11 := hid (HRm.out.drewN n11)
  clear HRb10 HRs10 HRt10 HRm
  generalize w10.drewN n11 = w11 at *
  go_wp2_with fail
  refine (P5.out _ _ _ HRb11.out).mono ?_
  rintro e w12 ⟨A12, c12, rfl, hc12, hR12, hA12, hb12⟩
  have hB12 := hB11.trans (hb12.mono hB11.size)
  have HRt12 := hid (HRt11.out.below hb12)
  have HRm12 := hid (HRm11.out.below hb12)
  have HR12 := hid hR12
  clear hR12 hA12 hb12 hB11 HRb11 HRt11 HRm11
  go_wp2_with fail
  refine (rsSame At A12 L2.length ct c12 L2 _ HRt12.out HR12.out (by omega)).mono ?_
  rintro e w13 ⟨rfl, n13, rfl⟩
  have hB13 := below_drewN hB12 n13
  have HRm13 := hid (HRm12.out.drewN n13)
  clear hB12 HRt12 HR12 HRm12
  generalize w12.drewN n13 = w13 at *
  go_wp2_with fail
  refine (P6.out _ _ (P7.out _)).mono ?_
  rintro e w14 ⟨A14, c14, rfl, hc14, hR14, hA14, hb14⟩
  have hb14' : Below w13.heap.size w13 w14 := ((Below.refl _ w13).alloc (Nat.le_refl _) _).trans (hb14.mono (by simp))
  have hB14 := hB13.trans (hb14'.mono hB13.size)
  have HRm14 := hid (HRm13.out.below hb14')
  have HR14 := hid hR14
  clear hR14 hA14 hb14 hb14' hB13 HRm13
  go_wp2_with fail
  refine (rsSame Am A14 L3.length cm c14 L3 _ HRm14.out HR14.out (by omega)).mono ?_
  rintro e w15 ⟨rfl, n15, rfl⟩
  have hB15 := below_drewN hB14 n15
  clear hB14
  go_wp2_with fail
  go_ret
  exact ⟨rfl, hB15⟩
set_option maxHeartbeats 4000000 in
theorem scales_neg (w : World) (n : Nat) (hn : n ≤ 255) (A : Option Addr) (len cap : Nat) (zs : List Int) (hS : SlIn w A len cap (zs.map (Value.int .i64))) (hz : ∀ j, -9223372036854775808 ≤ zs.getD j 0 ∧ zs.getD j 0 ≤ 9223372036854775807) (x : Int) (hx0 : -9223372036854775808 ≤ x) (hx1 : x ≤ 9223372036854775807) (d : Int) (hd0 : -128 ≤ d) (hd : d < 0) :
    Calls Try.prog 6 #[.int .u8 n, .slice A len cap, .int .i64 x, .int .i8 d] w fun e w' => e = .returned (.bool true) ∧ Below w.heap.size w w' := by
  have hR := hS.rd
  obtain ⟨_, _, hcm, _⟩ := hS
  unfold maxLen at hcm
  by_cases hbig : (2147483647 : Int) < len
  · go_enter Try.func6, Try.ntmps6
    go_wp2
    go_ret
    exact ⟨rfl, Below.refl _ _⟩
  have h := fGF (n % 6)
  have hB1 := fB_le (n % 6)
  have hfld := fun W => rsField n hn W
  generalize fP (n % 6) = p at *
  generalize fB (n % 6) = base at *
  generalize fM (n % 6) = m at *
  obtain ⟨N, hN⟩ : ∃ N, N = 2 ^ m := ⟨_, rfl⟩
  rw [← hN] at hfld
  have HN := hid hN
  have hN1 : N ≤ 4096 := by rw [hN]; exact Nat.pow_le_pow_right (n := 2) (by omega) h.small
  have hN0 : 4 ≤ N := by rw [hN]; exact Nat.pow_le_pow_right (n := 2) (by omega) h.pos
  have hin := elems_in hN (by omega) zs (min len 40)
  have hel : (elems N zs (min len 40)).length ≤ 40 := by unfold elems; rw [List.length_map, List.length_take]; omega
  have rp : ∀ W, Rd W A len (zs.map (Value.int .i64)) → Calls Try.prog 15 #[fieldVal p N base, .slice A len cap, .int .i64 40] W (ListOut (tidy (elems N zs (min len 40))) W) := fun W hR => rsPoly p N base A len cap zs 40 W (by omega) (by omega) hR (by omega) (by omega) hz
  generalize elems N zs (min len 40) = l0 at *
  obtain ⟨t1, _, _, t4⟩ := tidy_cases l0
  have htl : (tidy l0).length ≤ 40 := by
    rcases Nat.eq_zero_or_pos l0.length with e0 | e0
    · rw [List.eq_nil_of_length_eq_zero e0]; decide
    · have := t4 e0; omega
  have hT := tidy_in h hin
  have hTT := tidy_tidy l0
  generalize tidy l0 = l at *
  have rx := fun W => rsElement p N base x W (by omega) (by omega) hx0 hx1
  have hxN := elemOf_lt N x (by omega)
  generalize elemOf N x = y at *
  have HR := hid hR
  have HT := hid hT
  have HTT := hid hTT
  have H := hid h
  have Hrp := hid rp
  clear hR hT hin hel t4 hTT h hN rp
  unfold fieldVal at *
  go_enter Try.func6, Try.ntmps6
  go_wp2_with fail
  refine (hfld _).mono ?_
  rintro e w1 ⟨rfl, hBl⟩
  clear hfld
  go_wp2_with fail
  have A0 := Arr.of_new w1 23 #[.int .i64 p, .int .i64 N, .int .i64 base]
  have B0 : Below w.heap.size w (w1.alloc (.cells #[.int .i64 p, .int .i64 N, .int .i64 base] 23)) := hBl.alloc hBl.size _
  have d0 := A0.cell? 0
  have d1 := A0.cell? 1
  have d2 := A0.cell? 2
  have hlt := A0.lt
  try simp only at d0 d1 d2
  generalize w1.heap.size = g at *
  generalize w1.alloc (.cells #[.int .i64 p, .int .i64 N, .int .i64 base] 23) = w2 at *
  clear A0 hBl
  go_region_held3 (fun w' => w'.cell? ⟨g, 0, none⟩ = some (.int .i64 p) ∧ w'.cell? ⟨g, 1, none⟩ = some (.int .i64 N) ∧ w'.cell? ⟨g, 2, none⟩ = some (.int .i64 base) ∧ g < w'.heap.size ∧ Below w.heap.size w w') (first | exact ⟨d0, d1, d2, hlt, B0.drew⟩ | exact keepF (by assumption) hb5 | exact keepF (by assumption) hb6)
    (first
      | (go_at_call 15; ((with_reducible refine (Hrp.out _ ?_).mono ?_); (first | exact (HR.out.below B0).drew | exact ((HR.out.below B0).drew).below hb6); rintro e w5 ⟨A1, c1, rfl, hc1, hR1, hA1, hb5⟩))
      | (go_at_call 11; ((with_reducible refine (rx _).mono ?_); rintro e w6 ⟨rfl, hb6⟩)))
  have S6 : w6.cell? ⟨g, 0, none⟩ = some (.int .i64 p) ∧ w6.cell? ⟨g, 1, none⟩ = some (.int .i64 N) ∧ w6.cell? ⟨g, 2, none⟩ = some (.int .i64 base) ∧ g < w6.heap.size ∧ Below w.heap.size w w6 := by assumption
  have HR6 := hid (hR1.below hb6)
  clear hR1 d0 d1 d2 hb5 hb6 hA1
  have rpr : ∀ (W : World) (A2 : Option Addr), Rd W A1 l.length (ints l) → Rd W A2 1 (ints [y]) → Calls Try.prog 18 #[fieldVal p N base, .slice A1 l.length c1, .slice A2 1 1] W (ListOut (tidy (scaleBy p m y l)) W) := fun W A2 h1 h2 => by
    rw [← prodL_one]
    exact rsProduct p m N base A1 A2 c1 1 l [y] W H.out HN h1 h2 t1 (by simp) (by omega) (by simp) HT.out (fun z hz => by rw [List.mem_singleton.1 hz, ← HN.out]; exact hxN)
  have rs1 : ∀ W : World, Rd W A1 l.length (ints l) → Calls Try.prog 19 #[fieldVal p N base, .slice A1 l.length c1, .int .i64 y] W (ListOk (tidy (scaleBy p m y l)) W) := fun W h1 => implScaled p m N base y A1 l.length c1 l W H.out HN hB1 h1 t1 (by omega) hxN HT.out HTT.out
  have rs2 : ∀ W : World, Rd W A1 l.length (ints l) → Calls Try.prog 20 #[fieldVal p N base, .slice A1 l.length c1, .int .i64 d, .int .i64 y] W (NoList W) := fun W h1 => implShiftedNeg p m N base d y A1 l.length c1 l W H.out HN hB1 h1 t1 (by omega) hd
  have rs3 : ∀ W : World, Calls Try.prog 21 #[fieldVal p N base, .int .i64 d, .int .i64 y] W (NoList W) := fun W => implMonoNeg p m N base d y W H.out HN hB1 hd
  have q1 : 1 ≤ (tidy (scaleBy p m y l)).length := (tidy_cases _).1
  have q2 : (tidy (scaleBy p m y l)).length ≤ 40 := tidy_len_le (by rw [scale_len]; exact t1) (by rw [scale_len]; exact htl)
  generalize tidy (scaleBy p m y l) = L1 at *
  have P1 := hid rpr
  have P2 := hid rs1
  have P3 := hid rs2
  have P4 := hid rs3
  clear rpr rs1 rs2 rs3 Hrp rx
  obtain ⟨d0, d1, d2, hlt6, hB6⟩ := S6
  have one := fun W : World => Rd.one W 3 (.int .i64 y)
  have P7 := hid one
  clear one
  unfold fieldVal at *
  go_wp2_with fail
  refine (P1.out _ _ (HR6.out.alloc _) (P7.out _)).mono ?_
  rintro e w7 ⟨Ab, cb, rfl, hcb, hRb, hAb, hb7⟩
  have hb7' : Below w6.heap.size w6 w7 := ((Below.refl _ w6).alloc (Nat.le_refl _) _).trans (hb7.mono (by simp))
  have S7 := keepF ⟨d0, d1, d2, hlt6, hB6⟩ hb7'
  have HR7 := hid (HR6.out.below hb7')
  have HRb := hid hRb
  clear hb7 hb7' hRb hAb d0 d1 d2 hB6 HR6 hlt6
  obtain ⟨d0, d1, d2, hlt6, hB6⟩ := S7
  go_wp2_with fail
  refine (P2.out _ HR7.out).mono ?_
  rintro e w8 ⟨As, cs, rfl, hcs, hRs, hb8⟩
  have S8 := keepF ⟨d0, d1, d2, hlt6, hB6⟩ hb8
  have HR8 := hid (HR7.out.below hb8)
  have HRb8 := hid (HRb.out.below hb8)
  have HRs := hid hRs
  clear hRs hb8 d0 d1 d2 hB6 hlt6 HR7 HRb
  obtain ⟨d0, d1, d2, hlt6, hB6⟩ := S8
  go_wp2_with fail
  refine (P3.out _ HR8.out).mono ?_
  rintro e w9 ⟨rfl, hb9⟩
  have S9 := keepF ⟨d0, d1, d2, hlt6, hB6⟩ hb9
  have HRb9 := hid (HRb8.out.below hb9)
  have HRs9 := hid (HRs.out.below hb9)
  clear hb9 d0 d1 d2 hB6 hlt6 HR8 HRb8 HRs
  obtain ⟨d0, d1, d2, hlt6, hB6⟩ := S9
  go_wp2_with fail
  refine (P4.out _).mono ?_
  rintro e w10 ⟨rfl, hb10⟩
  have hB10 := hB6.trans (hb10.mono hB6.size)
  have HRb10 := hid (HRb9.out.below hb10)
  have HRs10 := hid (HRs9.out.below hb10)
  clear hb10 d0 d1 d2 hB6 hlt6 HRb9 HRs9
  go_wp2_with fail
  refine (rsSame As Ab L1.length cs cb L1 _ HRs10.out HRb10.out (by omega)).mono ?_
  rintro e w11 ⟨rfl, n11, rfl⟩
  have hB11 := below_drewN hB10 n11
  clear hB10
  go_wp2_with fail
  go_ret
  exact ⟨rfl, hB11⟩

theorem FnRSScales_walk (w : World) (n : Int) (hn : (Lit.int .u8 n).wf = true) (A : Option Addr) (len cap : Nat) (zs : List Int) (hS : SlIn w A len cap (zs.map (Value.int .i64))) (hwf : ∀ n ∈ zs, (Lit.int .i64 n).wf = true) (x : Int) (hx : (Lit.int .i64 x).wf = true) (d : Int) (hd : (Lit.int .i8 d).wf = true) :
    Calls Try.prog 6 #[.int .u8 n, .slice A len cap, .int .i64 x, .int .i8 d] w fun e w' => e = .returned (.bool true) ∧ Below w.heap.size w w' := by
  have h0 := wf_u8 hn
  have h1 := wf_i64 hx
  have h2 := wf_i8 hd
  obtain ⟨k, rfl⟩ := Int.eq_ofNat_of_zero_le h0.1
  have hz : ∀ j, -9223372036854775808 ≤ zs.getD j 0 ∧ zs.getD j 0 ≤ 9223372036854775807 := fun j => by
    by_cases hj : j < zs.length
    · exact wf_i64 (hwf (zs.getD j 0) (by rw [List.getD_eq_getElem?_getD, List.getElem?_eq_getElem hj]; simp))
    · rw [List.getD_eq_getElem?_getD, List.getElem?_eq_none (by omega)]; simp
  rcases (by omega : d < 0 ∨ 0 ≤ d) with hneg | hpos
  · exact scales_neg w k (by omega) A len cap zs hS hz x h1.1 h1.2 d h2.1 hneg
  · obtain ⟨e, rfl⟩ := Int.eq_ofNat_of_zero_le hpos
    exact scales_pos w k (by omega) A len cap zs hS hz x h1.1 h1.2 e (by omega)
end Go.Proofs.Ytpkmknbmjlnkgaa
