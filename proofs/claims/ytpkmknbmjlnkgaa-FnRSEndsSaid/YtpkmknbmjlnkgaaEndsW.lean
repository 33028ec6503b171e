/- FnRSEnds: the walk of the law. -/
import Derived.Test.YtpkmknbmjlnkgaaDecI
import Derived.Test.YtpkmknbmjlnkgaaWordsW
namespace Go.Proofs.Ytpkmknbmjlnkgaa
open Go.RowKit
set_option linter.unusedVariables false

theorem code_kept {p m base ec n : Nat} {c : List Nat} {o : Option (List Nat)} (hc : CodeL p m base ec n c) (hD : DecRel p m base ec c o) : o = some c := by
  rcases hD with h1 | ⟨h1, _⟩
  · exact h1.2
  · exact absurd (fun i hi => by rw [Nat.add_comm]; exact hc.2.2 i hi) h1
theorem dec_in2 {p m base R : Nat} (h : IsGF p m) (hR1 : 2 ≤ R) {l l' : List Nat} (hl : AllIn m l) (hD : DecRel p m base R l (some l')) : AllIn m l' := by
  refine dec_in h hl (fun rl r tl t hE => ?_) hD
  have hsl := syn_len (p := p) (m := m) base l R
  have hb : Good m R (tidy (synL p m base l R)) := good_tidy h (syn_in h base hl R) (by omega) (by omega)
  have ha : Good m (R + 1) (monoL 1 R) := ⟨tidy_first (.inl (by simp [monoL])) (by simp [monoL]), mono_in h (one_lt h) R, by simp [monoL], by simp [monoL]⟩
  exact (eucs_bound h hR1 ha (by simp [monoL]) (by simp [monoL]) hb hE).gr.2.1

/-- A code is read as it is. -/
def DecKept (cc : List Nat) (w : World) (e : Ending) (w' : World) : Prop := ∃ tb c, e = .returned (.tuple #[.slice (some ⟨tb, 0, none⟩) cc.length c, .bool true]) ∧ Below w.heap.size w w'

set_option maxRecDepth 20000 in
set_option maxHeartbeats 4000000 in
theorem ends_core (w : World) (n : Nat) (hn : n ≤ 255) (A : Option Addr) (len cap : Nat) (zs : List Int) (hS : SlIn w A len cap (zs.map (Value.int .i64))) (hz : ∀ j, -9223372036854775808 ≤ zs.getD j 0 ∧ zs.getD j 0 ≤ 9223372036854775807) (ec : Nat) (hec : ec ≤ 255) :
    Calls Try.prog 9 #[.int .u8 n, .slice A len cap, .int .u8 ec] w fun e w' => e = .returned (.bool true) ∧ Below w.heap.size w w' := by
  have hR := hS.rd
  obtain ⟨_, _, hcm, _⟩ := hS
  unfold maxLen at hcm
  by_cases hbig : (2147483647 : Int) < len
  · go_enter Try.func9, Try.ntmps9
    go_wp2
    go_ret
    exact ⟨rfl, Below.refl _ _⟩
  have h := fGF (n % 6)
  have hB1 := fB_le (n % 6)
  have hNN := fN (n % 6)
  have hfld := fun W => rsField n hn W
  generalize fP (n % 6) = p at *
  generalize fB (n % 6) = base at *
  generalize fM (n % 6) = m at *
  obtain ⟨N, hN⟩ : ∃ N, N = 2 ^ m := ⟨_, rfl⟩
  rw [← hN] at hfld hNN
  have HN := hid hN
  have hin := elems_in hN (by omega) zs (min len (mostN N - manyN N ec))
  have hel : (elems N zs (min len (mostN N - manyN N ec))).length ≤ 255 := by unfold elems mostN; rw [List.length_map, List.length_take]; omega
  have hm1 : 2 ≤ manyN N ec := by unfold manyN; omega
  have hm2 : manyN N ec ≤ 41 ∧ manyN N ec + base ≤ N := by have := many_bd N ec hNN; omega
  have rw_ := fun W h => rsWords p N base ec A len cap zs W hNN hec h (by omega) hz
  generalize elems N zs (min len (mostN N - manyN N ec)) = l at *
  generalize manyN N ec = many at *
  obtain ⟨nn, hnn⟩ : ∃ nn, nn = l.length := ⟨_, rfl⟩
  have HNL := hid hnn
  have HIN := hid hin
  have H := hid h
  have hm3 : many + base ≤ 2 ^ m := by rw [← hN]; exact hm2.2
  have HM3 := hid hm3
  have HRW := hid rw_
  have HR := hid hR
  clear hin rw_ h hN hNN hR hz hm3
  have hm4 := hm2.1
  clear hm2
  rw [← hnn] at hel
  unfold fieldVal at *
  go_enter Try.func9, Try.ntmps9
  go_wp2_with fail
  refine (hfld _).mono ?_
  rintro e w1 ⟨rfl, hBl⟩
  clear hfld
  go_wp2_with fail
  have A0 := Arr.of_new w1 23 #[.int .i64 p, .int .i64 N, .int .i64 base]
  have B0 : Below w.heap.size w (w1.alloc (.cells #[.int .i64 p, .int .i64 N, .int .i64 base] 23)) := hBl.alloc hBl.size _
  have d0 := A0.cell? 0
  have d1 := A0.cell? 1
  have d2 := A0.cell? 2
  have hlt := A0.lt
  try simp only at d0 d1 d2
  generalize w1.heap.size = g at *
  generalize w1.alloc (.cells #[.int .i64 p, .int .i64 N, .int .i64 base] 23) = w2 at *
  clear A0 hBl
  refine (HRW.out w2 (HR.out.below B0)).mono ?_
  rintro e w3 ⟨A3, c3, rfl, hc3, hR3, hb3⟩
  have S3 := keepF ⟨d0, d1, d2, hlt, B0⟩ hb3
  have HR3 := hid hR3
  rw [← hnn] at hc3 HR3
  rw [← hnn]
  clear hR3 hb3 d0 d1 d2 hlt B0
  obtain ⟨d0, d1, d2, hlt, B0⟩ := S3
  have HB3 := hid B0
  by_cases h0 : 0 < nn
  · have hd : decide (0 < nn) = true := decide_eq_true h0
    rw [hd]
    by_cases hfew : nn < many
    · have hfew' : (nn : Int) < (many : Int) := by omega
      clear hnn
      go_wp2_with fail
      go_ret
      exact ⟨rfl, HB3.out⟩
    · have hfew' : ¬ (nn : Int) < (many : Int) := by omega
      have idc := implDecode p m N base many A3 nn c3 l w3 H.out HN hB1 HR3.out (by omega) (by omega) HIN.out hm1 (by omega) HM3.out
      clear hnn
      unfold fieldVal at *
      go_wp2_with fail
      refine idc.mono ?_
      clear idc
      rintro e w4 ⟨hb4, o1, hrel1, hcase1⟩
      have HB4 := hid (HB3.out.trans (hb4.mono HB3.out.size))
      have S4 := keepF ⟨d0, d1, d2, hlt, Below.refl w3.heap.size w3⟩ hb4
      have HREL1 := hid hrel1
      have HBB := hid (Below.refl w4.heap.size w4)
      clear hb4 hrel1 d0 d1 d2 hlt B0
      obtain ⟨d0, d1, d2, hlt, B34⟩ := S4
      have HRT := hid ((HR3.out.below B34).take (nn - many + 1) (by omega))
      clear B34
      have B44 := Below.refl w4.heap.size w4
      have HTI := hid (show AllIn m (l.take (nn - many + 1)) from fun x hx => HIN.out x (List.mem_of_mem_take hx))
      have en : ∀ W, Below w4.heap.size w4 W → Calls Try.prog 26 #[fieldVal p N base, .slice A3 (nn - many + 1) c3, .int .i64 many] W (CodeOut p m base many (nn - many + 1 + many) W) := fun W hW => rsEncode p m N base many (nn - many + 1) A3 c3 (l.take (nn - many + 1)) W H.out HN hB1 (by have := HRT.out.below hW; rwa [show (ints l).take (nn - many + 1) = ints (l.take (nn - many + 1)) from by simp [ints]] at this) (by omega) (by omega) HTI.out (by omega) (by omega)
      have de : ∀ W A9 c9 (cc : List Nat), CodeL p m base many (nn - many + 1 + many) cc → Rd W A9 cc.length (ints cc) → Calls Try.prog 27 #[fieldVal p N base, .slice A9 cc.length c9, .int .i64 many] W (DecKept cc W) := fun W A9 c9 cc hc hr => (implDecode p m N base many A9 cc.length c9 cc W H.out HN hB1 hr (by rw [hc.2.1]; omega) (by rw [hc.2.1]; omega) hc.1 hm1 (by omega) HM3.out).mono fun e w' hh => by
        obtain ⟨hb, o, hrel, hcase⟩ := hh
        have hk := code_kept hc hrel
        rcases hcase with ⟨ho, _⟩ | ⟨l', tb, c, rest, ho, he, _, _, _⟩
        · rw [hk] at ho; simp at ho
        · rw [hk] at ho
          injection ho with ho
          subst ho
          exact ⟨tb, c, he, hb⟩
      have u1 : IntKind.i64.wrap ((nn : Int) - (many : Int)) = (nn : Int) - (many : Int) := IntWalk.i64_in _ ⟨by omega, by omega⟩
      have u2 : IntKind.i64.wrap ((nn : Int) - (many : Int) + 1) = (nn : Int) - (many : Int) + 1 := IntWalk.i64_in _ ⟨by omega, by omega⟩
      have u3 : (0 : Int) ≤ (nn : Int) - (many : Int) + 1 := by omega
      have u4 : (nn : Int) - (many : Int) + 1 ≤ (c3 : Int) := by omega
      have u5 : ((nn : Int) - (many : Int) + 1).toNat = nn - many + 1 := by omega
      have EN := hid en
      have DE := hid de
      clear en de
      unfold fieldVal at *
      rcases hcase1 with ⟨ho1, rfl⟩ | ⟨l1, tb1, c1, rest1, ho1, rfl, htb1, hT1, hc1⟩
      · have HO1 := hid ho1
        clear ho1
        go_wp2_with fail
        go_region_held3 (fun w' => w'.cell? ⟨g, 0, none⟩ = some (.int .i64 p) ∧ w'.cell? ⟨g, 1, none⟩ = some (.int .i64 N) ∧ w'.cell? ⟨g, 2, none⟩ = some (.int .i64 base) ∧ g < w'.heap.size ∧ Below w4.heap.size w4 w') (first | exact ⟨d0, d1, d2, hlt, B44.drew⟩ | exact keepD (by assumption) | exact keepF (by assumption) (by assumption))
          (first
            | (go_at_call 26; ((with_reducible refine (EN.out _ ?_).mono ?_); (first | assumption | exact B44.drew); rintro e w5 ⟨cc, hcode, A9, c9, rfl, hc9, hR9, _, hb9⟩))
            | (go_at_call 27; ((with_reducible refine (DE.out _ _ _ _ hcode ?_).mono ?_); (first | assumption | exact hR9); rintro e w6 ⟨tb2, c2, rfl, hb10⟩)))
        have S6 : w6.cell? ⟨g, 0, none⟩ = some (.int .i64 p) ∧ w6.cell? ⟨g, 1, none⟩ = some (.int .i64 N) ∧ w6.cell? ⟨g, 2, none⟩ = some (.int .i64 base) ∧ g < w6.heap.size ∧ Below w4.heap.size w4 w6 := by assumption
        have HB6 := hid (HB4.out.trans (S6.2.2.2.2.mono HB4.out.size))
        clear hb9 hb10 hcode hR9 d0 d1 d2 hlt B44
        obtain ⟨d0, d1, d2, hlt, B46⟩ := S6
        go_wp2_with fail
        go_ret
        exact ⟨rfl, HB6.out⟩
      · have hll := dec_len (ho1 ▸ HREL1.out)
        rw [← HNL.out] at hll
        have HLI := hid (dec_in2 H.out hm1 HIN.out (ho1 ▸ HREL1.out))
        have HRD := hid (rd_front hT1 hll)
        rw [hll]
        clear ho1 hT1 hll
        go_wp2_with fail
        go_region_held3 (fun w' => w'.cell? ⟨g, 0, none⟩ = some (.int .i64 p) ∧ w'.cell? ⟨g, 1, none⟩ = some (.int .i64 N) ∧ w'.cell? ⟨g, 2, none⟩ = some (.int .i64 base) ∧ g < w'.heap.size ∧ Below w4.heap.size w4 w') (first | exact ⟨d0, d1, d2, hlt, B44.drew⟩ | exact keepD (by assumption) | exact keepF (by assumption) (by assumption))
          (first
            | (go_at_call 26; ((with_reducible refine (EN.out _ ?_).mono ?_); (first | assumption | exact B44.drew); rintro e w5 ⟨cc, hcode, A9, c9, rfl, hc9, hR9, _, hb9⟩))
            | (go_at_call 27; ((with_reducible refine (DE.out _ _ _ _ hcode ?_).mono ?_); (first | assumption | exact hR9); rintro e w6 ⟨tb2, c2, rfl, hb10⟩)))
        have S6 : w6.cell? ⟨g, 0, none⟩ = some (.int .i64 p) ∧ w6.cell? ⟨g, 1, none⟩ = some (.int .i64 N) ∧ w6.cell? ⟨g, 2, none⟩ = some (.int .i64 base) ∧ g < w6.heap.size ∧ Below w4.heap.size w4 w6 := by assumption
        have HB6 := hid (HB4.out.trans (S6.2.2.2.2.mono HB4.out.size))
        clear hb9 hb10 hcode hR9 d0 d1 d2 hlt B44
        obtain ⟨d0, d1, d2, hlt, B46⟩ := S6
        have ri := rsInW p N base (some ⟨tb1, 0, none⟩) nn c1 l1 w6 (HRD.out.below B46) (by omega) (fun x hx => by rw [HN.out]; exact HLI.out x hx)
        unfold fieldVal at *
        clear B46
        go_wp2_with fail
        refine ri.mono ?_
        clear ri
        rintro e w7 ⟨rfl, hb7⟩
        have HB7 := hid (HB6.out.trans (hb7.mono HB6.out.size))
        clear hb7 d0 d1 d2 hlt
        go_wp2_with fail
        go_ret
        exact ⟨rfl, HB7.out⟩
  · have hd : decide (0 < nn) = false := decide_eq_false h0
    rw [hd]
    clear hnn
    go_wp2_with fail
    go_ret
    exact ⟨rfl, HB3.out⟩

theorem FnRSEnds_walk (w : World) (n : Int) (hn : (Lit.int .u8 n).wf = true) (A : Option Addr) (len cap : Nat) (zs : List Int) (hS : SlIn w A len cap (zs.map (Value.int .i64))) (hwf : ∀ n ∈ zs, (Lit.int .i64 n).wf = true) (x : Int) (hx : (Lit.int .u8 x).wf = true) :
    Calls Try.prog 9 #[.int .u8 n, .slice A len cap, .int .u8 x] w fun e w' => e = .returned (.bool true) ∧ Below w.heap.size w w' := by
  have h0 := wf_u8 hn
  have h1 := wf_u8 hx
  obtain ⟨k, rfl⟩ := Int.eq_ofNat_of_zero_le h0.1
  obtain ⟨ec, rfl⟩ := Int.eq_ofNat_of_zero_le h1.1
  refine ends_core w k (by omega) A len cap zs hS (fun j => ?_) ec (by omega)
  by_cases hj : j < zs.length
  · exact wf_i64 (hwf (zs.getD j 0) (by rw [List.getD_eq_getElem?_getD, List.getElem?_eq_getElem hj]; simp))
  · rw [List.getD_eq_getElem?_getD, List.getElem?_eq_none (by omega)]; simp
end Go.Proofs.Ytpkmknbmjlnkgaa
