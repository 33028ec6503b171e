/- FnRSCorrects: the walk of the law. -/
import Derived.Test.YtpkmknbmjlnkgaaHurtW
import Derived.Test.YtpkmknbmjlnkgaaWordsW
namespace Go.Proofs.Ytpkmknbmjlnkgaa
open Go.RowKit
set_option linter.unusedVariables false

/-- The words put right. -/
def DecGot (c : List Nat) (n : Nat) (w : World) (e : Ending) (w' : World) : Prop := ∃ tb cc, e = .returned (.tuple #[.slice (some ⟨tb, 0, none⟩) n cc, .bool true]) ∧ Rd w' (some ⟨tb, 0, none⟩) n (ints c) ∧ Below w.heap.size w w'
/-- Words of which some are others, of a length that is known. -/
def HurtGot (m : Nat) (c : List Nat) (most n : Nat) (w : World) (e : Ending) (w' : World) : Prop :=
  ∃ out Ps er, Hurt m c out Ps er ∧ (∀ k ∈ Ps, 0 < er k) ∧ Ps.length ≤ most ∧ ∃ A cc, e = .returned (.slice A n cc) ∧ Rd w' A n (ints out) ∧ Below w.heap.size w w'

set_option maxRecDepth 20000 in
set_option maxHeartbeats 4000000 in
theorem cors_core (w : World) (n : Nat) (hn : n ≤ 255) (A : Option Addr) (len cap : Nat) (zs : List Int) (hS : SlIn w A len cap (zs.map (Value.int .i64))) (hz : ∀ j, -9223372036854775808 ≤ zs.getD j 0 ∧ zs.getD j 0 ≤ 9223372036854775807) (ec : Nat) (hec : ec ≤ 255)
    (A2 : Option Addr) (len2 cap2 : Nat) (zs2 : List Int) (hS2 : SlIn w A2 len2 cap2 (zs2.map (Value.int .u16))) (hz2 : ∀ j, 0 ≤ zs2.getD j 0 ∧ zs2.getD j 0 ≤ 65535)
    (A3 : Option Addr) (len3 cap3 : Nat) (zs3 : List Int) (hS3 : SlIn w A3 len3 cap3 (zs3.map (Value.int .u16))) (hz3 : ∀ j, 0 ≤ zs3.getD j 0 ∧ zs3.getD j 0 ≤ 65535) :
    Calls Try.prog 8 #[.int .u8 n, .slice A len cap, .int .u8 ec, .slice A2 len2 cap2, .slice A3 len3 cap3] w fun e w' => e = .returned (.bool true) ∧ Below w.heap.size w w' := by
  have hR := hS.rd
  obtain ⟨_, _, hcm, _⟩ := hS
  have hRa := hS2.rd
  obtain ⟨_, _, hcm2, _⟩ := hS2
  have hRb := hS3.rd
  obtain ⟨_, _, hcm3, _⟩ := hS3
  unfold maxLen at hcm hcm2 hcm3
  by_cases hbig : (2147483647 : Int) < len
  · go_enter Try.func8, Try.ntmps8
    go_wp2
    go_ret
    exact ⟨rfl, Below.refl _ _⟩
  by_cases hbig2 : (2147483647 : Int) < len2
  · go_enter Try.func8, Try.ntmps8
    go_wp2
    go_ret
    exact ⟨rfl, Below.refl _ _⟩
  by_cases hbig3 : (2147483647 : Int) < len3
  · go_enter Try.func8, Try.ntmps8
    go_wp2
    go_ret
    exact ⟨rfl, Below.refl _ _⟩
  have h := fGF (n % 6)
  have hB1 := fB_le (n % 6)
  have hNN := fN (n % 6)
  have hfld := fun W => rsField n hn W
  generalize fP (n % 6) = p at *
  generalize fB (n % 6) = base at *
  generalize fM (n % 6) = m at *
  obtain ⟨N, hN⟩ : ∃ N, N = 2 ^ m := ⟨_, rfl⟩
  rw [← hN] at hfld hNN
  have HN := hid hN
  have hin := elems_in hN (by omega) zs (min len (mostN N - manyN N ec))
  have hel : (elems N zs (min len (mostN N - manyN N ec))).length ≤ mostN N - manyN N ec := by unfold elems; rw [List.length_map, List.length_take]; omega
  have hm1 : 2 ≤ manyN N ec := by unfold manyN; omega
  have hm2 : manyN N ec ≤ 41 ∧ manyN N ec + base ≤ N := by have := many_bd N ec hNN; omega
  have hm5 : mostN N ≤ 255 ∧ mostN N ≤ N - 1 ∧ manyN N ec ≤ mostN N := by unfold mostN; refine ⟨by omega, by omega, ?_⟩; have := many_bd N ec hNN; omega
  have rw_ := fun W h => rsWords p N base ec A len cap zs W hNN hec h (by omega) hz
  generalize elems N zs (min len (mostN N - manyN N ec)) = l at *
  generalize manyN N ec = many at *
  obtain ⟨nn, hnn⟩ : ∃ nn, nn = l.length := ⟨_, rfl⟩
  have HNL := hid hnn
  have HIN := hid hin
  have H := hid h
  have hm3 : many + base ≤ 2 ^ m := by rw [← hN]; exact hm2.2
  have hm6 : nn + many ≤ 255 ∧ nn + many ≤ 2 ^ m - 1 := by rw [← hN, hnn]; omega
  have HM3 := hid hm3
  have HM6 := hid hm6.2
  have hm7 := hm6.1
  have HRW := hid rw_
  have HR := hid hR
  have HRa := hid hRa
  have HRb := hid hRb
  have HZ2 := hid hz2
  have HZ3 := hid hz3
  clear hin rw_ h hN hNN hR hz hm3 hm6 hm5 hRa hRb hz2 hz3
  have hm4 := hm2.1
  clear hm2 hel
  unfold fieldVal at *
  go_enter Try.func8, Try.ntmps8
  go_wp2_with fail
  refine (hfld _).mono ?_
  rintro e w1 ⟨rfl, hBl⟩
  clear hfld
  go_wp2_with fail
  have A0 := Arr.of_new w1 23 #[.int .i64 p, .int .i64 N, .int .i64 base]
  have B0 : Below w.heap.size w (w1.alloc (.cells #[.int .i64 p, .int .i64 N, .int .i64 base] 23)) := hBl.alloc hBl.size _
  have d0 := A0.cell? 0
  have d1 := A0.cell? 1
  have d2 := A0.cell? 2
  have hlt := A0.lt
  try simp only at d0 d1 d2
  generalize w1.heap.size = g at *
  generalize w1.alloc (.cells #[.int .i64 p, .int .i64 N, .int .i64 base] 23) = w2 at *
  clear A0 hBl
  refine (HRW.out w2 (HR.out.below B0)).mono ?_
  rintro e w3 ⟨A1, c1, rfl, hc1, hR3, hb3⟩
  have S3 := keepF ⟨d0, d1, d2, hlt, B0⟩ hb3
  have HR3 := hid hR3
  rw [← hnn] at hc1 HR3
  rw [← hnn]
  clear hR3 hb3 d0 d1 d2 hlt B0
  obtain ⟨d0, d1, d2, hlt, B0⟩ := S3
  have HB3 := hid B0
  by_cases h0 : 0 < nn
  · have hd : decide (0 < nn) = true := decide_eq_true h0
    rw [hd]
    have en := rsEncode p m N base many nn A1 c1 l w3 H.out HN hB1 HR3.out h0 (by omega) HIN.out (by omega) (by omega)
    clear hnn
    unfold fieldVal at *
    go_wp2_with fail
    refine en.mono ?_
    clear en
    rintro e w4 ⟨cc, hcode, A4, c4, rfl, hc4, hR4, _, hb4⟩
    have S4 := keepF ⟨d0, d1, d2, hlt, Below.refl w3.heap.size w3⟩ hb4
    have HB4 := hid (HB3.out.trans (hb4.mono HB3.out.size))
    have HC := hid hcode
    have HR4 := hid hR4
    have hcl : cc.length = nn + many := hcode.2.1
    have HCL := hid hcl
    rw [hcl]
    rw [hcl] at hc4 HR4
    clear hb4 hcode hR4 d0 d1 d2 hlt B0 hcl
    obtain ⟨d0, d1, d2, hlt, B34⟩ := S4
    clear B34
    have B44 := Below.refl w4.heap.size w4
    have HRA4 := hid (HRa.out.below HB4.out)
    have HRB4 := hid (HRb.out.below HB4.out)
    obtain ⟨h2, hh2⟩ : ∃ h2, h2 = many / 2 := ⟨_, rfl⟩
    have e3 : (many : Int) / 2 = (h2 : Int) := by omega
    have e4 : IntKind.i64.wrap (h2 : Int) = (h2 : Int) := IntWalk.i64_in _ ⟨by omega, by omega⟩
    have hut : ∀ W, Below w4.heap.size w4 W → Calls Try.prog 28 #[fieldVal p N base, .slice A4 (nn + many) c4, .slice A2 len2 cap2, .slice A3 len3 cap3, .int .i64 h2] W (HurtGot m cc h2 (nn + many) W) := fun W hW => (rsHurt p N base m A4 (nn + many) c4 cc A2 len2 cap2 zs2 A3 len3 cap3 zs3 h2 W H.out HN (by have := HR4.out.below hW; exact this) (by omega) (by omega) HC.out.1 (HRA4.out.below hW) (by omega) HZ2.out (HRB4.out.below hW) (by omega) HZ3.out (by omega)).mono fun e w' hh => by
      obtain ⟨hu, Ps, er, hH, hpos, hmo, A, c, he, _, hr, _, hb⟩ := hh
      have hl : hu.length = nn + many := hH.len.trans HCL.out
      rw [hl] at he hr
      exact ⟨hu, Ps, er, hH, hpos, hmo, A, c, he, hr, hb⟩
    have dec : ∀ W A9 c9 (hu : List Nat) Ps er (hH : Hurt m cc hu Ps er) (hpos : ∀ k ∈ Ps, 0 < er k) (hmo : Ps.length ≤ h2) (hr : Rd W A9 (nn + many) (ints hu)), Calls Try.prog 27 #[fieldVal p N base, .slice A9 (nn + many) c9, .int .i64 many] W (DecGot cc (nn + many) W) := fun W A9 c9 hu Ps er hH hpos hmo hr =>
      (implDecode p m N base many A9 (nn + many) c9 hu W H.out HN hB1 hr (by omega) (by omega) hH.all hm1 (by omega) HM3.out).mono fun e w' hh => by
        obtain ⟨hb, o, hrel, hcase⟩ := hh
        have hk := corrects H.out hB1 hm1 HM6.out HC.out hH hpos (by omega) hrel
        rcases hcase with ⟨ho, _⟩ | ⟨l', tb, c, rest, ho, he, _, hT, _⟩
        · rw [hk] at ho; simp at ho
        · rw [hk] at ho
          injection ho with ho
          subst ho
          rw [HCL.out] at he
          exact ⟨tb, c, he, rd_front hT HCL.out, hb⟩
    have HUT := hid hut
    have DEC := hid dec
    clear hut dec hh2
    unfold fieldVal at *
    go_wp2_with fail
    go_region_held3 (fun w' => w'.cell? ⟨g, 0, none⟩ = some (.int .i64 p) ∧ w'.cell? ⟨g, 1, none⟩ = some (.int .i64 N) ∧ w'.cell? ⟨g, 2, none⟩ = some (.int .i64 base) ∧ g < w'.heap.size ∧ Below w4.heap.size w4 w') (first | exact ⟨d0, d1, d2, hlt, B44.drew⟩ | exact keepD (by assumption) | exact keepF (by assumption) (by assumption))
      (first
        | (go_at_call 28; ((with_reducible refine (HUT.out _ ?_).mono ?_); (first | assumption | exact B44.drew); rintro e w5 ⟨hu, Ps, er, hH, hpos, hmo, A5, c5, rfl, hR5, hb9⟩))
        | (go_at_call 27; ((with_reducible refine (DEC.out _ _ _ _ _ _ hH hpos hmo ?_).mono ?_); (first | assumption | exact hR5); rintro e w6 ⟨tb2, c2, rfl, hR6, hb10⟩)))
    have S6 : w6.cell? ⟨g, 0, none⟩ = some (.int .i64 p) ∧ w6.cell? ⟨g, 1, none⟩ = some (.int .i64 N) ∧ w6.cell? ⟨g, 2, none⟩ = some (.int .i64 base) ∧ g < w6.heap.size ∧ Below w4.heap.size w4 w6 := by assumption
    have HB6 := hid (HB4.out.trans (S6.2.2.2.2.mono HB4.out.size))
    have sm := rsSame (some ⟨tb2, 0, none⟩) A4 (nn + many) c2 c4 cc w6 hR6 (HR4.out.below S6.2.2.2.2) (by omega)
    clear hb9 hb10 hR5 hR6 d0 d1 d2 hlt B44 hH hpos hmo S6
    go_wp2_with fail
    refine sm.mono ?_
    rintro e w7 ⟨rfl, n7, rfl⟩
    clear sm
    go_wp2_with fail
    go_ret
    exact ⟨rfl, below_drewN HB6.out _⟩
  · have hd : decide (0 < nn) = false := decide_eq_false h0
    rw [hd]
    clear hnn
    go_wp2_with fail
    go_ret
    exact ⟨rfl, HB3.out⟩

theorem FnRSCorrects_walk (w : World) (n : Int) (hn : (Lit.int .u8 n).wf = true) (A : Option Addr) (len cap : Nat) (zs : List Int) (hS : SlIn w A len cap (zs.map (Value.int .i64))) (hwf : ∀ n ∈ zs, (Lit.int .i64 n).wf = true) (x : Int) (hx : (Lit.int .u8 x).wf = true)
    (A2 : Option Addr) (len2 cap2 : Nat) (zs2 : List Int) (hS2 : SlIn w A2 len2 cap2 (zs2.map (Value.int .u16))) (hwf2 : ∀ n ∈ zs2, (Lit.int .u16 n).wf = true)
    (A3 : Option Addr) (len3 cap3 : Nat) (zs3 : List Int) (hS3 : SlIn w A3 len3 cap3 (zs3.map (Value.int .u16))) (hwf3 : ∀ n ∈ zs3, (Lit.int .u16 n).wf = true) :
    Calls Try.prog 8 #[.int .u8 n, .slice A len cap, .int .u8 x, .slice A2 len2 cap2, .slice A3 len3 cap3] w fun e w' => e = .returned (.bool true) ∧ Below w.heap.size w w' := by
  have h0 := wf_u8 hn
  have h1 := wf_u8 hx
  obtain ⟨k, rfl⟩ := Int.eq_ofNat_of_zero_le h0.1
  obtain ⟨ec, rfl⟩ := Int.eq_ofNat_of_zero_le h1.1
  have hu : ∀ ys : List Int, (∀ n ∈ ys, (Lit.int .u16 n).wf = true) → ∀ j, 0 ≤ ys.getD j 0 ∧ ys.getD j 0 ≤ 65535 := fun ys hy j => by
    by_cases hj : j < ys.length
    · exact wf_u16 (hy (ys.getD j 0) (by rw [List.getD_eq_getElem?_getD, List.getElem?_eq_getElem hj]; simp))
    · rw [List.getD_eq_getElem?_getD, List.getElem?_eq_none (by omega)]; simp
  refine cors_core w k (by omega) A len cap zs hS (fun j => ?_) ec (by omega) A2 len2 cap2 zs2 hS2 (hu zs2 hwf2) A3 len3 cap3 zs3 hS3 (hu zs3 hwf3)
  by_cases hj : j < zs.length
  · exact wf_i64 (hwf (zs.getD j 0) (by rw [List.getD_eq_getElem?_getD, List.getElem?_eq_getElem hj]; simp))
  · rw [List.getD_eq_getElem?_getD, List.getElem?_eq_none (by omega)]; simp
end Go.Proofs.Ytpkmknbmjlnkgaa
