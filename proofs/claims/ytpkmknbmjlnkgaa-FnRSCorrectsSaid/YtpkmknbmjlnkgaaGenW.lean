/- The generator of a code, by the package's encoder. -/
import Derived.Test.YtpkmknbmjlnkgaaDivW
namespace Go.Proofs.Ytpkmknbmjlnkgaa
open Go.RowKit
set_option linter.unusedVariables false

section
variable {p m : Nat}
theorem rowTo_get0 (x : Nat) (b : List Nat) (i : Nat) (out : List Nat) (hi : 1 ≤ i) : ∀ k, (rowTo p m x b i out k).getD 0 0 = out.getD 0 0
  | 0 => rfl
  | k + 1 => by
    rw [rowTo, List.getD, List.getElem?_set_ne (by omega)]
    exact rowTo_get0 x b i out hi k
theorem rowTo_head (x : Nat) (b : List Nat) (out : List Nat) (ho : 1 ≤ out.length) : ∀ k, (rowTo p m x b 0 out (k + 1)).getD 0 0 = out.getD 0 0 ^^^ gm p m x (b.getD 0 0)
  | 0 => by simp [rowTo, List.getD, List.getElem?_set_self (show 0 < out.length by omega)]
  | k + 1 => by
    rw [rowTo, List.getD, List.getElem?_set_ne (by omega)]
    exact rowTo_head x b out ho k
theorem prod_head (a b : List Nat) (ha : 1 ≤ a.length) (hb : 1 ≤ b.length) : (prodL p m a b).getD 0 0 = gm p m (a.getD 0 0) (b.getD 0 0) := by
  have h1 : ∀ i, (prodTo p m a b (i + 1)).getD 0 0 = gm p m (a.getD 0 0) (b.getD 0 0) := by
    intro i
    induction i with
    | zero =>
      rw [prodTo]
      have := rowTo_head (p := p) (m := m) (a.getD 0 0) b (prodTo p m a b 0) (by rw [prodTo_len]; omega) (b.length - 1)
      rw [show b.length - 1 + 1 = b.length from by omega] at this
      rw [this]
      have h0 : (prodTo p m a b 0).getD 0 0 = 0 := by
        simp only [prodTo, List.getD, List.getElem?_replicate]
        split <;> rfl
      rw [h0, Nat.zero_xor]
    | succ i ih =>
      rw [prodTo, rowTo_get0 _ _ _ _ (by omega)]
      exact ih
  rw [prodL, show a.length = (a.length - 1) + 1 from by omega]
  exact h1 _
theorem prodL_len (a b : List Nat) : (prodL p m a b).length = a.length + b.length - 1 := prodTo_len a b _
theorem prodL_in (h : IsGF p m) {a b : List Nat} (ha : AllIn m a) (hb : AllIn m b) : AllIn m (prodL p m a b) := prodTo_in h ha hb _
end

theorem info56 : (Try.prog.info? 56).map (fun i => (i.zero, i.size, i.bytes)) = some (some (.pointer none), 1, 8) := by kernel_rfl

/-- Block e is an encoder with the generators xs. -/
def IsEnc (w : World) (B e g : Nat) (v : Value) (xs : List Value) : Prop :=
  B ≤ e ∧ Arr w e 86 [.pointer (some ⟨g, 0, none⟩), v] ∧ Own w B 56 v xs ∧ v.ownBlock ≠ some e

/-- A new encoder is handed back. -/
def EncOut (g : Nat) (w : World) (e : Ending) (w' : World) : Prop :=
  ∃ x v q, e = .returned (fieldPtr x) ∧ IsEnc w' w.heap.size x g v [.pointer (some ⟨q, 0, none⟩)] ∧ IsPoly w' w.heap.size q (.pointer (some ⟨g, 0, none⟩)) [1] ∧ Below w.heap.size w w'

set_option maxHeartbeats 1000000 in
theorem newEnc (g : Nat) (w : World) : Calls Try.prog 41 #[fieldPtr g] w (EncOut g w) := by
  have A1 := Arr.of_new w 3 #[.int .i64 1]
  have R1 : Rd (w.alloc (.cells #[.int .i64 1] 3)) (some ⟨w.heap.size, 0, none⟩) 1 (ints [1]) := Rd.of_arr A1
  have np := newPoly (some ⟨g, 0, none⟩) (some ⟨w.heap.size, 0, none⟩) 1 1 [1] w.heap.size _ R1 (by omega) (by omega) (Nat.le_refl _) (fun a e => by injection e with e; subst e; exact Nat.le_refl _) (by simp)
  have HB1 := hid (show Below w.heap.size w (w.alloc (.cells #[.int .i64 1] 3)) from (Below.refl _ _).alloc (Nat.le_refl _) _)
  clear A1 R1
  unfold fieldPtr
  go_enter Try.func41, Try.ntmps41
  go_wp2_with fail
  refine np.mono ?_
  rintro e w2 ⟨q, rfl, hq, hP, hb⟩
  rw [show tidy [1] = [1] from rfl] at hP
  have HP := hid hP
  have HB2 := hid (HB1.out.trans (hb.mono HB1.out.size))
  clear np hP hb
  go_wp2
  go_ret
  refine ⟨w2.heap.size + 1, .slice (some ⟨w2.heap.size, 0, none⟩) 1 1, q, rfl, ⟨by have := HB2.out.size; omega, ?_, ?_, by simp [Value.ownBlock]⟩, (HP.out.alloc _).alloc _, (HB2.out.alloc HB2.out.size _).alloc (by have := HB2.out.size; simp; omega) _⟩
  · have := Arr.of_new (w2.alloc (.cells #[.pointer (some ⟨q, 0, none⟩)] 56)) 86 #[.pointer (some ⟨g, 0, none⟩), .slice (some ⟨w2.heap.size, 0, none⟩) 1 1]
    simpa using this
  · exact Own.alloc (World.ownsRow_lit w2 #[.pointer (some ⟨q, 0, none⟩)] 1 HB2.out.size (by simp [maxLen]) rfl) _

theorem IsPoly.grown {w w' : World} {B q : Nat} {F : Value} {l : List Nat} {row : Option Nat} (h : IsPoly w B q F l) (hg : w.grownBy w' row) (hr : ∀ r, row = some r → r < B) : IsPoly w' B q F l := by
  obtain ⟨hq, A, n, c, hA, hnc, hr', hR⟩ := h
  refine ⟨hq, A, n, c, hA, hnc, hr'.grown hg (fun e => by have := hr q e.symm; omega), ⟨hR.1, fun hn => ?_⟩⟩
  obtain ⟨b, o, rfl, hb, hc⟩ := hR.2 hn
  have hbB := hA _ rfl
  refine ⟨b, o, rfl, Nat.lt_of_lt_of_le hb hg.size, fun k hk => ?_⟩
  rw [World.cell?_of_block (w := w) (a := ⟨b, o + k, none⟩) (hg.block b hb (fun e => by have := hr b e.symm; simp at hbB; omega))]
  exact hc k hk
theorem grown_setCell (w : World) (p : Addr) (v : Value) : w.grownBy (w.setCell p v) (some p.block) :=
  ⟨((Below.refl p.block w).setCell (Nat.le_refl _) v).os, ((Below.refl p.block w).setCell (Nat.le_refl _) v).tape, ((Below.refl p.block w).setCell (Nat.le_refl _) v).output, by simp, fun k hk hne => Below.heap_setCell w p v k (fun e => hne (by rw [e]))⟩

theorem exp_sum (w : World) (g p m base k : Nat) (hF : IsField w g p m base) (hk : k < 4000) (hb : base ≤ 1) (hkm : k + base < 2 ^ m) :
    Calls Try.prog 60 #[fieldPtr g, .int .i64 ((k : Int) + (base : Int))] w (SameOut (.int .i64 (ex p m (k + base) : Nat)) w) := by
  have := expAt g p m base (k + base) w hF hkm (by omega)
  rwa [show ((k + base : Nat) : Int) = (k : Int) + (base : Int) from by omega] at this

/-- A generator is handed back. -/
def GenOut (m : Nat) (F : Value) (n B x : Nat) (w0 w : World) (e : Ending) (w' : World) : Prop :=
  ∃ q Bq l, e = .returned (fieldPtr q) ∧ IsPoly w' Bq q F l ∧ Good m n l ∧ l.getD 0 0 ≠ 0 ∧ Below B w0 w' ∧ w'.cell? ⟨x, 0, none⟩ = some F ∧ w.heap.size ≤ w'.heap.size

attribute [local go_sem ↓] Go.wp_at_zero Go.wp_at_succ
set_option maxRecDepth 100000 in
set_option maxHeartbeats 4000000 in
theorem buildGen (x g p m base q1 n : Nat) (v : Value) (w0 w : World) (h : IsGF p m) (hb1 : base ≤ 1) (hF0 : IsField w0 g p m base) (hE : IsEnc w w0.heap.size x g v [.pointer (some ⟨q1, 0, none⟩)]) (hP : IsPoly w w0.heap.size q1 (.pointer (some ⟨g, 0, none⟩)) [1]) (hB : Below w0.heap.size w0 w) (hn1 : 1 ≤ n) (hn : n ≤ 100) (hn2 : n + base ≤ 2 ^ m) :
    Calls Try.prog 53 #[fieldPtr x, .int .i64 n] w (GenOut m (.pointer (some ⟨g, 0, none⟩)) (n + 1) w0.heap.size x w0 w) := by
  obtain ⟨i0, hi, hz0, hz1, hz2⟩ := info_parts info56
  have hN1 : 2 ^ m ≤ 4096 := Nat.pow_le_pow_right (n := 2) (by omega) h.small
  have H := hid h
  have HF0 := hid hF0
  obtain ⟨hx, hA, hO, hne⟩ := hE
  have c0 : w.cell? ⟨x, 0, none⟩ = some (.pointer (some ⟨g, 0, none⟩)) := hA.cell? 0
  have c1 : w.cell? ⟨x, 1, none⟩ = some v := hA.cell? 1
  obtain ⟨A, c, hv, hR, hcap⟩ := hO.form
  obtain ⟨b, o, hAe, hcell⟩ := hR.at_ 0 (by simp)
  subst hAe
  simp only [List.length_singleton, Nat.add_zero, List.getElem?_cons_zero] at hv hcell
  rw [hv] at c1
  have hxl := hA.lt
  have HA := hid hA
  have HO := hid hO
  have HP := hid hP
  have HB := hid hB
  have HV := hid hv
  have HNE := hid hne
  have HHX := hid hx
  have hlt : (1 : Int) ≤ (n : Int) := by omega
  clear h hF0 hA hO hR hP hB hv hne hcap hx
  unfold fieldPtr
  go_enter Try.func53, Try.ntmps53
  go_wp2_with fail
  have hG1 : Good m 1 [1] := ⟨rfl, fun x hx => by rw [List.mem_singleton.1 hx]; exact one_lt H.out, by simp, by simp⟩
  have HG1 := hid hG1
  clear hG1 c0 c1 hcell
  go_loopw [6, 7] (fun lv dv wr => ∃ (k q Bq : Nat) (l : List Nat) (v : Value) (xs : List Value), 1 ≤ k ∧ k ≤ n + 1 ∧ dv = .int .i64 k ∧ lv = .pointer (some ⟨q, 0, none⟩) ∧ IsPoly wr Bq q (.pointer (some ⟨g, 0, none⟩)) l ∧ Good m k l ∧ l.getD 0 0 ≠ 0 ∧ IsEnc wr w0.heap.size x g v xs ∧ xs.length = k ∧ xs[k - 1]? = some (.pointer (some ⟨q, 0, none⟩)) ∧ Below w0.heap.size w0 wr ∧ Hid (w.heap.size ≤ wr.heap.size)) (fun _ dv _ => n + 1 - (intOf dv).toNat)
  case atStart => exact ⟨1, q1, _, [1], v, _, by omega, by omega, rfl, rfl, HP.out, HG1.out, by simp, ⟨HHX.out, HA.out, HO.out, HNE.out⟩, rfl, rfl, HB.out, hid (Nat.le_refl _)⟩
  case round =>
    clear HA HO HV HNE HP HB
    obtain ⟨k, q, Bq, l, v, xs, hk1, hk, rfl, rfl, hP, hG, hl0, ⟨hx, hA, hO, hne⟩, hxs, hxk, hB, HWS⟩ := hrel
    have c0 : wr.cell? ⟨x, 0, none⟩ = some (.pointer (some ⟨g, 0, none⟩)) := hA.cell? 0
    have c1 : wr.cell? ⟨x, 1, none⟩ = some v := hA.cell? 1
    have hxl := hA.lt
    have HA := hid hA
    have HO := hid hO
    have HP := hid hP
    have HB := hid hB
    have HNE := hid hne
    have HG := hid hG
    have HL0 := hid hl0
    have HXS := hid hxs
    by_cases hkn : k ≤ n
    · have hle : (k : Int) ≤ (n : Int) := by omega
      have hFld : ∀ W : World, Below wr.heap.size wr W → IsField W g p m base := fun W hW => HF0.out.below (HB.out.trans (hW.mono HB.out.size))
      have HFLD := hid hFld
      have hk2 : k - 1 + base < 2 ^ m := by omega
      have bo := fun (W : World) hW => baseOf g p m base W (HFLD.out W hW)
      have ea : ∀ W : World, Below wr.heap.size wr W → Calls Try.prog 60 #[fieldPtr g, .int .i64 ((k : Int) - 1 + (base : Int))] W (SameOut (.int .i64 (ex p m (k - 1 + base) : Nat)) W) := fun W hW => by
        have := exp_sum W g p m base (k - 1) (HFLD.out W hW) (by omega) hb1 hk2
        rwa [show ((k - 1 : Nat) : Int) = (k : Int) - 1 from by omega] at this
      have hy := ex_lt H.out (k - 1 + base)
      generalize ex p m (k - 1 + base) = y at *
      have hr1 : Rd ((wr.alloc (.cells #[.int .i64 1, .int .i64 y] 3)).drew) (some ⟨wr.heap.size, 0, none⟩) 2 (ints [1, y]) := Rd.of_arr (Arr.of_new wr 3 #[.int .i64 1, .int .i64 y]).drew
      have hG2 : Good m 2 [1, y] := ⟨rfl, fun z hz => by simp at hz; rcases hz with rfl | rfl; exact one_lt H.out; exact hy, by simp, by simp⟩
      have np : Calls Try.prog 48 #[.pointer (some ⟨g, 0, none⟩), .slice (some ⟨wr.heap.size, 0, none⟩) 2 2] ((wr.alloc (.cells #[.int .i64 1, .int .i64 y] 3)).drew) (PolyOut wr.heap.size (.pointer (some ⟨g, 0, none⟩)) [1, y] ((wr.alloc (.cells #[.int .i64 1, .int .i64 y] 3)).drew)) := newPoly (some ⟨g, 0, none⟩) (some ⟨wr.heap.size, 0, none⟩) 2 2 [1, y] wr.heap.size _ hr1 (by omega) (by omega) (Nat.le_refl _) (fun a e => by injection e with e; subst e; exact Nat.le_refl _) (by simp)
      have HBO := hid bo
      have HEA := hid ea
      have HNP := hid np
      have HG2 := hid hG2
      have b0 := Below.refl wr.heap.size wr
      have u1 : IntKind.i64.wrap ((k : Int) - 1) = (k : Int) - 1 := IntWalk.i64_in _ ⟨by omega, by omega⟩
      have u2 : IntKind.i64.wrap ((k : Int) - 1 + (base : Int)) = (k : Int) - 1 + (base : Int) := IntWalk.i64_in _ ⟨by omega, by omega⟩
      clear hA hO hP hB hne hG hl0 hxs hxk hFld hr1 hG2 bo ea np hy
      unfold fieldPtr at *
      go_wp2_with fail
      go_region_held3 (fun w' => w'.cell? ⟨x, 0, none⟩ = some (.pointer (some ⟨g, 0, none⟩)) ∧ Below wr.heap.size wr w')
        (first | exact ⟨c0, b0.drew⟩ | exact ⟨((b0.alloc (Nat.le_refl _) _).drew.cell (p := ⟨x, 0, none⟩) hxl).trans c0, (b0.alloc (Nat.le_refl _) _).drew⟩ | exact ⟨((((b0.alloc (Nat.le_refl _) _).drew).trans (hb6.mono (by simp))).cell (p := ⟨x, 0, none⟩) hxl).trans c0, ((b0.alloc (Nat.le_refl _) _).drew).trans (hb6.mono (by simp))⟩ | (refine ⟨(Below.cell (by assumption) (p := ⟨x, 0, none⟩) hxl).trans c0, ?_⟩; first | assumption | exact Below.trans (by assumption) (Below.mono (by assumption) (Below.size (by assumption)))))
        (first
          | (go_at_call 61; ((with_reducible refine (HBO.out _ ?_).mono ?_); (first | assumption | exact b0.drew); rintro e w5 ⟨rfl, rfl⟩))
          | (go_at_call 60; ((with_reducible refine (HEA.out _ ?_).mono ?_); (first | assumption | exact b0.drew); rintro e w5 ⟨rfl, rfl⟩))
          | (go_at_call 48; ((with_reducible refine HNP.out.mono ?_); rintro e w6 ⟨q2, rfl, hq2, hP2, hb6⟩)))
      have S6 : w6.cell? ⟨x, 0, none⟩ = some (.pointer (some ⟨g, 0, none⟩)) ∧ Below wr.heap.size wr w6 := by assumption
      have HB6 := hid S6.2
      have HP6 := hid (HP.out.below HB6.out)
      have HQ6 := hid hP2
      have HF6 := hid (HFLD.out w6 HB6.out)
      have HPL := hid (show 1 ≤ (prodL p m l [1, y]).length ∧ (prodL p m l [1, y]).length ≤ k + 1 by rw [prodL_len]; have := HG.out.2.2.2; have := HG.out.2.2.1; simp only [List.length_cons, List.length_nil]; omega)
      have HPI := hid (prodL_in H.out HG.out.2.1 HG2.out.2.1)
      have HPH := hid (show (prodL p m l [1, y]).getD 0 0 ≠ 0 by rw [prod_head l [1, y] HG.out.2.2.1 (by simp)]; show gm p m (l.getD 0 0) 1 ≠ 0; rw [gm_one H.out]; exact HL0.out)
      have HPT := hid (show tidy (prodL p m l [1, y]) = prodL p m l [1, y] from tidy_first (.inl HPH.out) HPL.out.1)
      have pm := polyMul2 q q2 g p m base Bq wr.heap.size l [1, y] w6 H.out HF6.out HP6.out HQ6.out HG.out.2.2.1 (by simp) (by have := HG.out.2.2.2; omega) (by simp) HG.out.2.1 HG2.out.2.1 HL0.out (by simp)
      rw [HPT.out] at pm
      generalize prodL p m l [1, y] = L at *
      clear S6 hb6 hP2 c0
      unfold fieldPtr at *
      go_wp2_with fail
      refine pm.mono ?_
      rintro e w7 ⟨q3, rfl, hq3, hP3, hb7⟩
      clear pm
      have HB7 := hid (show Below wr.heap.size wr w7 from HB6.out.trans (hb7.mono HB6.out.size))
      have HB7' := hid hb7
      have HP7 := hid hP3
      have HA7 := hid (HA.out.below HB7.out hxl)
      have HVL := hid (fun r (hr : v.ownBlock = some r) => HO.out.lt r hr)
      have HO7 := hid (HO.out.below HB7.out (fun r hr => (HVL.out r hr).2))
      have c1' : w7.cell? ⟨x, 1, none⟩ = some v := HA7.out.cell? 1
      clear c1 hb7 hP3
      have HS7 := hid (show w0.heap.size ≤ w7.heap.size from Nat.le_trans HB.out.size HB7.out.size)
      go_wp2_with (at_builtin; refine wpList_app _ rfl _ _ 84 rfl w0.heap.size 56 i0 _ 8 Try.underlying84 hi hz0 hz1 hz2 rfl v xs rfl (HO7.out.alloc _) (some ⟨w7.heap.size, 0, none⟩) 1 1 [.pointer (some ⟨q3, 0, none⟩)] rfl (Rd.one _ _ _) (by intro u hu; rw [List.mem_singleton.1 hu]; rfl) (by rw [HXS.out]; simp [maxLen]; omega) (by rw [HXS.out]; omega) (by have := HS7.out; simp; omega) ?_)
      intro v2 w9 hO9 hg9 hat
      have HNE1 := hid (show some x ≠ v.ownBlock from fun e => HNE.out e.symm)
      have hA9 := (HA7.out.alloc (.cells #[.pointer (some ⟨q3, 0, none⟩)] 56)).grown hg9 HNE1.out
      have k1 : w9.cell? ⟨x, 1, none⟩ = some v := hA9.cell? 1
      have fz : w9.frozen? ⟨x, 1, none⟩ = false := hA9.frozen 1
      have hS7 : w6.heap.size ≤ w7.heap.size := HB7'.out.size
      have hS6 : wr.heap.size ≤ w6.heap.size := HB6.out.size
      have HP9 := hid ((HP7.out.alloc (.cells #[.pointer (some ⟨q3, 0, none⟩)] 56)).grown hg9 (fun r hr => Nat.lt_of_lt_of_le (HVL.out r hr).2 hS6))
      have HB9 := hid (show Below w0.heap.size w0 w9 from (((HB.out.trans (HB7.out.mono HB.out.size)).alloc HS7.out (.cells #[.pointer (some ⟨q3, 0, none⟩)] 56)).grown hg9 (Nat.le_trans HS7.out (by simp)) (fun r hr => (HVL.out r hr).1)))
      have HN2 := hid (show v2.ownBlock ≠ some x from by
        rcases hat with h1 | h1
        · rw [h1]; exact HNE.out
        · rw [h1]; intro e; injection e with e; omega)
      obtain ⟨A2, cc2, hv2, _, _⟩ := hO9.form
      rw [show (xs ++ [Value.pointer (some ⟨q3, 0, none⟩)]).length = xs.length + 1 by simp] at hv2
      subst hv2
      have HO9 := hid hO9
      have HA9 := hid hA9
      have HWS2 := hid (show w.heap.size ≤ w9.heap.size from Nat.le_trans HWS.out (Nat.le_trans HB7.out.size (Nat.le_trans (by simp) hg9.size)))
      have HHX2 := hid (show x < w6.heap.size by omega)
      clear hO9 hA9 hg9 hat hS6 hS7 c1'
      go_wp2_with fail
      go_roundw
      case rel =>
        refine ⟨k + 1, q3, w6.heap.size, L, _, xs ++ [.pointer (some ⟨q3, 0, none⟩)], by omega, by omega, by go_num, rfl, HP9.out.far (p := ⟨x, 1, none⟩) HHX2.out _, ⟨HPT.out, HPI.out, HPL.out.1, HPL.out.2⟩, HPH.out, ⟨HHX.out, ?_, HO9.out.keep (grown_setCell w9 ⟨x, 1, none⟩ _) (.inr HN2.out), HN2.out⟩, by simp [HXS.out], by rw [Nat.add_sub_cancel, ← HXS.out]; simp, HB9.out.setCell HHX.out _, hid (by rw [World.size_setCell]; exact HWS2.out)⟩
        exact HA9.out.set 1 _
      case measure => simp [intOf]; omega
    · obtain rfl : k = n + 1 := by omega
      obtain ⟨A, c, hv, hR, hcap⟩ := HO.out.form
      obtain ⟨b, o, hAe, hcell⟩ := hR.at_ n (by rw [HXS.out]; omega)
      subst hAe
      rw [HXS.out] at hv
      rw [show n + 1 - 1 = n from rfl] at hxk
      rw [hxk] at hcell
      subst hv
      have hle : ¬ ((n + 1 : Nat) : Int) ≤ (n : Int) := by omega
      have hln : (n : Int) < ((n + 1 : Nat) : Int) := by omega
      have HC0 := hid c0
      clear hR hcap hxk c0
      go_wp2_with fail
      go_ret
      exact ⟨q, Bq, l, rfl, HP.out, HG.out, HL0.out, HB.out, HC0.out, HWS.out⟩
end Go.Proofs.Ytpkmknbmjlnkgaa
