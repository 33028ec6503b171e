/- QR codes: decoder.DecodedBitStreamParser_Decode. Printed by gen_dec.py. -/
import Derived.Test.YtpffffhgmhpkiaaSpE
import Derived.StillTailTactics
namespace Go.Proofs.Ytpffffhgmhpkiaa
open Go.RowKit
set_option linter.unusedVariables false
set_option linter.unusedSimpArgs false

theorem Kp.cell {B q g k : Nat} {w w' : World} (h : Kp B q w w') (h1 : g < B) (h2 : g ≠ q) : w'.cell? ⟨g, k, none⟩ = w.cell? ⟨g, k, none⟩ := World.cell?_of_block (w := w) (h.block g h1 h2)
theorem DecAt.below {W : List Nat} {A : Option Addr} {c q B p : Nat} {o : List Nat} {bl : List (List Nat)} {w0 w w' : World} {ov bv : Value} (h : DecAt W A c q B p o bl w0 ov bv w) (hB : B ≤ w.heap.size) (hb : Below w.heap.size w w') : DecAt W A c q B p o bl w0 ov bv w' := by
  obtain ⟨xs, h1, h2, h3⟩ := h.segs
  exact ⟨Arr.below h.src hb h.src.lt, h.own.below hb (fun k hk => (h.own.lt k hk).2), ⟨xs, h1.below hb (fun k hk => (h1.lt k hk).2), h2, fun i hi => by
    obtain ⟨g, a1, a2, a3, a4, a5, a6⟩ := h3 i hi
    exact ⟨g, a1, a2.below hb a2.lt, a3, a4, a5, a6⟩⟩, h.sep, h.kp.below (hb.mono hB)⟩
/-- Slices of bytes that can be read. -/
def SegRd (w : World) (xs : List Value) (bl : List (List Nat)) : Prop :=
  xs.length = bl.length ∧ ∀ i (h : i < bl.length), ∃ g, xs[i]? = some (.slice (some ⟨g, 0, none⟩) bl[i].length bl[i].length) ∧ Arr w g 5 (u8s bl[i])
theorem SegRd.below {w w' : World} {xs : List Value} {bl : List (List Nat)} (h : SegRd w xs bl) (hb : Below w.heap.size w w') : SegRd w' xs bl :=
  ⟨h.1, fun i hi => by obtain ⟨g, a1, a2⟩ := h.2 i hi; exact ⟨g, a1, a2.below hb a2.lt⟩⟩
theorem SegsIn.rd {w : World} {B q : Nat} {ov bv : Value} {xs : List Value} {bl : List (List Nat)} (h : SegsIn w B q ov bv xs bl) : SegRd w xs bl :=
  ⟨h.1, fun i hi => by obtain ⟨g, a1, a2, _⟩ := h.2 i hi; exact ⟨g, a1, a2⟩⟩
/-- A segment as the writer's law has it. -/
structure SegOk (x : Nat × List Nat) : Prop where
  mode : IsMode x.1
  dig : x.1 = 1 → Digs x.2
  alp : x.1 = 2 → Alphs x.2
  lt : ∀ c ∈ x.2, c < 256
  len : x.2.length ≤ 200
def textOf (l : List (Nat × List Nat)) : List Nat := l.flatMap (·.2)
def bytesOf (l : List (Nat × List Nat)) : List (List Nat) := (l.filter (fun x => x.1 == 4)).map (·.2)
theorem text_len : ∀ l : List (Nat × List Nat), (∀ x ∈ l, SegOk x) → (textOf l).length ≤ 200 * l.length
  | [], _ => by simp [textOf]
  | x :: l, h => by
    have := text_len l (fun y hy => h y (by simp [hy]))
    have h1 := (h x (by simp)).len
    simp only [textOf, List.flatMap_cons, List.length_append, List.length_cons] at this ⊢
    omega
theorem bytesOf_len (l : List (Nat × List Nat)) : (bytesOf l).length ≤ l.length := by
  unfold bytesOf
  rw [List.length_map]
  exact List.length_filter_le _ _
/-- What the reader gives. -/
def DecodeOut (A : Option Addr) (n c : Nat) (X : List Nat) (bl : List (List Nat)) (ec : ByteArray) (w : World) (e : Ending) (w' : World) : Prop :=
  ∃ (d : Nat) (Ab : Option Addr) (cb : Nat) (xs : List Value), e = .returned (.tuple #[.pointer (some ⟨d, 0, none⟩), .nilIface]) ∧ IsRes w' d (.slice A n c) n (strOf X) (.slice Ab bl.length cb) ec ∧ Rd w' Ab bl.length xs ∧ SegRd w' xs bl ∧ Below w.heap.size w w'
theorem Rd.len0 {w : World} : Rd w none 0 [] := Rd.nil

set_option maxRecDepth 20000 in
set_option maxHeartbeats 16000000 in
theorem decodeQ (W : List Nat) (A : Option Addr) (c v lv qv : Nat) (S : List (Nat × List Nat)) (w : World) (hR : Rd w A W.length (u8s W)) (hlt : ∀ j, W.getD j 0 < 256) (hn : W.length ≤ 4000) (hA : ∀ a, A = some a → a.block < w.heap.size)
    (hv : v ≤ 40) (hlv : lv < 4) (hq0 : w.cell? ⟨qv, 0, none⟩ = some (.int .i64 v)) (hql : qv < w.heap.size) (hS : ∀ x ∈ S, SegOk x) (hSl : S.length ≤ 4) (hT : RAt W 0 (strD v S))
    (hE : 8 * W.length - lenD (strD v S) < 4 ∨ lenD (strD v S) + 4 ≤ 8 * W.length ∧ rdn W (lenD (strD v S)) 4 = 0) (hEl : lenD (strD v S) ≤ 8 * W.length) :
    Calls Try.prog 53 #[.slice A W.length c, .pointer (some ⟨qv, 0, none⟩), .int .i64 lv, .map none] w (DecodeOut A W.length c (textOf S) (bytesOf S) (lvStr lv) w) := by
  obtain ⟨i5, gi, gz0, gz1, gz2⟩ := info_of info5
  obtain ⟨i22, yi, yz0, yz1, yz2⟩ := info_of info22
  have HNS := hid (fun V => newSrc A W.length c V)
  obtain ⟨q, hq⟩ : ∃ q, q = w.heap.size := ⟨_, rfl⟩
  obtain ⟨B, hB⟩ : ∃ B, B = w.heap.size + 1 := ⟨_, rfl⟩
  go_enter Try.func53, Try.ntmps53
  go_wp2_with (first
     | (go_at_call 89; ((with_reducible refine (HNS.out _).mono ?_); rintro e w1 ⟨rfl, h1, h2, h3⟩))
     | (at_make; refine wpList_make_own _ rfl _ _ 22 rfl B 5 i5 _ 1 Try.underlying22 gi gz0 gz1 .i64 .i64 50 50 rfl rfl rfl (by rw [gz2]; omega) (by simp [maxLen]) (by omega) ?_; intro w2 hO2 hg2)
     | (at_make; refine wpList_make_own _ rfl _ _ 23 rfl B 22 i22 _ 1 Try.underlying23 yi yz0 yz1 .i64 .i64 1 1 rfl rfl rfl (by rw [yz2]; omega) (by simp [maxLen]) (by have := hg2.size; omega) ?_; intro w3 hO3 hg3))
  have hsz2 := hg2.size
  have hsz3 := hg3.size
  have hv2 := (World.ownsRow.lt hO2 w1.heap.size rfl)
  have hv3 := (World.ownsRow.lt hO3 w2.heap.size rfl)
  have hqB : q < B := by omega
  have hB3 : B ≤ w3.heap.size := by omega
  have HBel := hid (show Below w.heap.size w w3 from (h2.grown hg2 (by omega) (fun k hk => by cases hk)).grown hg3 (by omega) (fun k hk => by cases hk))
  have HRD := hid (show Rdr W A c q B w3 from ⟨hR.below HBel.out, hlt, hn, fun a ha => by have := hA a ha; omega, hqB, hB3⟩)
  rw [← hq] at h1 ⊢
  have HD0 := hid (show DecAt W A c q B 0 [] [] w3 (.slice (some ⟨w1.heap.size, 0, none⟩) 0 50) (.slice (some ⟨w2.heap.size, 0, none⟩) 0 1) w3 from by
    refine ⟨(Src.own h1 hg2 (by intro e; cases e)).own hg3 (by intro e; cases e), ?_, ⟨[], hO3, rfl, fun i hi => by simp at hi⟩, fun g hg e => ?_, Kp.refl _ _ _⟩
    · exact (World.ownsRow.kept hO2 hg3 (.inr (by intro e; cases e)) : Own _ _ _ _ _)
    · simp [Value.ownBlock] at hg e; omega)
  have HVC := hid (show w3.cell? ⟨qv, 0, none⟩ = some (.int .i64 v) from (HBel.out.cell (p := ⟨qv, 0, none⟩) hql).trans hq0)
  have hqvB : qv < B ∧ qv ≠ q := by omega
  obtain ⟨E, hEe⟩ : ∃ E, E = lenD (strD v S) := ⟨_, rfl⟩
  obtain ⟨X, hX⟩ : ∃ X, X = textOf S := ⟨_, rfl⟩
  obtain ⟨BL, hBL⟩ : ∃ BL, BL = bytesOf S := ⟨_, rfl⟩
  have hXl : X.length ≤ 800 := by rw [hX]; have := text_len S hS; omega
  have hBLl : BL.length ≤ 4 := by rw [hBL]; have := bytesOf_len S; omega
  have HXe := hid hX
  have HBe := hid hBL
  rw [← hEe] at hE hEl
  have HE := hid hE
  have HEl := hid hEl
  have HS0 := hid hS
  have HT := hid hT
  have HX0 := hid (show X = [] ++ textOf S ∧ BL = [] ++ bytesOf S ∧ E = 0 + lenD (strD v S) from ⟨hX, hBL, by omega⟩)
  have RM := hid (fun p2 m (hm1 : 1 ≤ m) (hm2 : m ≤ 32) V (hm3 : p2 + m ≤ 8 * W.length) (hC : Rdr W A c q B V) (hS : Src V q A W.length c p2) => readM q A W.length c p2 W m V hS hC.n hC.rd hC.lt (fun a ha => (hC.ab a ha).2) hm1 hm2 hm3)
  have hNl := hn
  obtain ⟨L, hL⟩ : ∃ L, L = S.length := ⟨_, rfl⟩
  have HQ := hid hq
  have HBq := hid hB
  have e1 : w1.heap.size = q + 1 := by omega
  rw [e1] at HD0
  clear e1
  clear hR hlt hn hA hq0 hql hS hT hE hEl h1 h2 h3 hO2 hO3 hg2 hg3 hsz2 hsz3 hv2 hv3 hEe hX hBL HNS hq hB
  go_loopg [11, 12, 13, 14, 16, 17, 18, 19] (L + 1) (fun gk ov bv s13 s14 s16 s17 s18 s19 wr => ∃ (p : Nat) (o : List Nat) (bl : List (List Nat)) (S2 : List (Nat × List Nat)), gk = S2.length + 1 ∧ s13 = .int .i64 (-1) ∧ s14 = .int .i64 (-1) ∧ s16 = .pointer none ∧ s17 = .bool false ∧ s18 = .bool false ∧ s19 = .bool false ∧
    Hid (DecAt W A c q B p o bl w3 ov bv wr) ∧ Hid (RAt W p (strD v S2)) ∧ Hid (X = o ++ textOf S2 ∧ BL = bl ++ bytesOf S2 ∧ E = p + lenD (strD v S2)) ∧ Hid (∀ x ∈ S2, SegOk x))
  case atStart => exact ⟨0, [], [], S, by omega, rfl, rfl, rfl, rfl, rfl, rfl, HD0, HT, HX0, HS0⟩
  case round =>
    clear HD0 HT HX0 HS0
    obtain ⟨p, o, bl, S2, rfl, rfl, rfl, rfl, rfl, rfl, rfl, HD, HT, HX, HSO⟩ := hrel
    have HC := hid (HRD.out.kp HD.out.kp)
    have hbr := HC.out.bs
    have hpE : p ≤ 8 * W.length := by have := HX.out.2.2; have := HEl.out; omega
    have HAV := hid (available q A W.length c p wr HD.out.src hpE hNl)
    obtain ⟨D, hD⟩ : ∃ D, D = 8 * W.length - p := ⟨_, rfl⟩
    have hDl : D ≤ 32000 := by omega
    rw [← hD] at HAV
    rcases S2 with _ | ⟨⟨m, s⟩, S3⟩
    · have hX1 : o = X := by have := HX.out.1; simpa [textOf] using this.symm
      have hX2 : bl = BL := by have := HX.out.2.1; simpa [bytesOf] using this.symm
      have hX3 : p = E := by have := HX.out.2.2; simpa [strD, lenD] using this.symm
      have HDz := hid (show DecAt W A c q B p X BL w3 u11 u12 wr from by rw [← hX1, ← hX2]; exact HD.out)
      have HPE := hid hX3
      obtain ⟨A5, c5, hv5, _⟩ := own_str HDz.out.own
      obtain ⟨xs, hxo, hxs⟩ := HDz.out.segs
      obtain ⟨A7, c7, hv7, hR7, _⟩ := hxo.form
      subst hv5 hv7
      have HLV := hid (fun V => lvName lv hlv V)
      obtain ⟨xl, hxl⟩ : ∃ xl, xl = xs.length := ⟨_, rfl⟩
      obtain ⟨ol, hol⟩ : ∃ ol, ol = X.length := ⟨_, rfl⟩
      obtain ⟨N, hN⟩ : ∃ N, N = W.length := ⟨_, rfl⟩
      have hxlB : xl = BL.length := by rw [hxl, hxs.1]
      rw [← hxl] at HDz ⊢
      rw [← hol] at HDz ⊢
      have HXL := hid hxlB
      have hNl' : N ≤ 4000 := by omega
      have HNN := hid hN
      have HDD := hid hD
      clear HD HX hX1 hX2 hX3 hxo hR7 hol hxl hN hxs hxlB hD
      by_cases hD4 : D < 4
      · have hD4' : (D : Int) < 4 := by omega
        by_cases hx0 : xl = 0
        · have hxe : ((xl : Int) == 0) = true := by simp; omega
          have HX0 := hid hx0
          have hxl4 : xl ≤ 4 := by rw [HXL.out]; exact hBLl
          clear hx0
          go_wp2_with ((go_at_call 90; ((with_reducible refine HAV.out.mono ?_); rintro e w1 ⟨rfl, k1, rfl⟩; have HZ := hid (HDz.out.drewN k1); generalize wr.drewN k1 = w9 at *)))
          have hcv := own_str' (HZ.out.own.drewN 1)
          have HZD := hid (HZ.out.drewN 1)
          refine wp_region_still_tail 9 (by kernel_rfl) (by kernel_rfl) ?_
          change wpStill _ _ (w9.drewN 1) (fun a' => wpList _ _ _ _ a' (w9.drewN 1)) _ _
          generalize w9.drewN 1 = wd at *
          simp only [List.take_succ_cons, List.take_zero, List.drop_succ_cons, List.drop_zero]
          repeat still_step
          refine wpStill_step (fun K hK => ?_)
          go_simp
          refine ⟨.string (lvStr lv), ?_, ?_⟩
          · with_reducible refine (HLV.out _).mono ?_
            rintro e w5 ⟨rfl, rfl⟩
            exact ⟨rfl, rfl⟩
          refine hK _ ?_
          clear hK K hcv
          repeat still_step
          rw [wpStill]
          show wpList _ _ _ _ _ _
          go_wp2_with ((go_at_call 101; ((with_reducible refine (newRes A W.length c (strOf X) (lvStr lv) none 0 0 hNl _).mono ?_); rintro e wf ⟨rfl, hres, hbf⟩)))
          go_ret2
          rw [← HXe.out, ← HBe.out]
          have hb0 : BL.length = 0 := by rw [← HXL.out]; exact HX0.out
          refine ⟨_, none, 0, [], rfl, ?_, ?_, ?_, ?_⟩
          · rw [hb0]; exact hres
          · rw [hb0]; exact Rd.nil
          · exact ⟨by simp [hb0], fun i hi => by omega⟩
          · exact HBel.out.trans ((HZD.out.kp.toBelow (by have := HBq.out; omega) (by have := HQ.out; omega)).trans (hbf.mono (Nat.le_trans HBel.out.size HZD.out.kp.size)))
        · have hxe : ((xl : Int) == 0) = false := by simp; omega
          have HX0 := hid hx0
          have hxl4 : xl ≤ 4 := by rw [HXL.out]; exact hBLl
          clear hx0
          go_wp2_with ((go_at_call 90; ((with_reducible refine HAV.out.mono ?_); rintro e w1 ⟨rfl, k1, rfl⟩; have HZ := hid (HDz.out.drewN k1); generalize wr.drewN k1 = w9 at *)))
          have hcv := own_str' (HZ.out.own.drewN 1)
          have HZD := hid (HZ.out.drewN 1)
          refine wp_region_still_tail 9 (by kernel_rfl) (by kernel_rfl) ?_
          change wpStill _ _ (w9.drewN 1) (fun a' => wpList _ _ _ _ a' (w9.drewN 1)) _ _
          generalize w9.drewN 1 = wd at *
          simp only [List.take_succ_cons, List.take_zero, List.drop_succ_cons, List.drop_zero]
          repeat still_step
          refine wpStill_step (fun K hK => ?_)
          go_simp
          refine ⟨.string (lvStr lv), ?_, ?_⟩
          · with_reducible refine (HLV.out _).mono ?_
            rintro e w5 ⟨rfl, rfl⟩
            exact ⟨rfl, rfl⟩
          refine hK _ ?_
          clear hK K hcv
          repeat still_step
          rw [wpStill]
          show wpList _ _ _ _ _ _
          go_wp2_with ((go_at_call 101; ((with_reducible refine (newRes A W.length c (strOf X) (lvStr lv) A7 xl c7 hNl _).mono ?_); rintro e wf ⟨rfl, hres, hbf⟩)))
          go_ret2
          rw [← HXe.out, ← HBe.out]
          obtain ⟨xs', ho, hs⟩ := HZD.out.segs
          obtain ⟨A', c', e, hR', _⟩ := ho.form
          injection e with e1 e2 e3
          subst e1 e3
          have e4 : xs'.length = BL.length := hs.1
          refine ⟨_, A7, c7, xs', rfl, ?_, ?_, ?_, ?_⟩
          · rw [← HXL.out]; exact hres
          · rw [← e4]; exact hR'.below hbf
          · exact hs.rd.below hbf
          · exact HBel.out.trans ((HZD.out.kp.toBelow (by have := HBq.out; omega) (by have := HQ.out; omega)).trans (hbf.mono (Nat.le_trans HBel.out.size HZD.out.kp.size)))
      · have hD4' : ¬ (D : Int) < 4 := by omega
        have HR4 := hid (fun V hC hS => show Calls Try.prog 91 #[.pointer (some ⟨q, 0, none⟩), .int .i64 4] V _ from RM.out p 4 (by omega) (by omega) V (by have := HDD.out; omega) hC hS)
        have h40 : rdn W p 4 = 0 := by
          rcases HE.out with h | h
          · have := HPE.out; have := HDD.out; omega
          · rw [HPE.out]; exact h.2
        rw [h40] at HR4
        have HMQ := hid (fun V => show Calls Try.prog 92 #[.int .i64 0] V (fun e w' => e = .returned (.tuple #[.int .i64 0, .nilIface]) ∧ V = w') from modeQ 0 (.inl rfl) V)
        clear h40
        by_cases hx0 : xl = 0
        · have hxe : ((xl : Int) == 0) = true := by simp; omega
          have HX0 := hid hx0
          have hxl4 : xl ≤ 4 := by rw [HXL.out]; exact hBLl
          clear hx0
          go_wp2_with (first | (go_at_call 90; ((with_reducible refine HAV.out.mono ?_); rintro e w1 ⟨rfl, k1, rfl⟩; have HD1 := hid (HDz.out.drewN k1); generalize wr.drewN k1 = w6 at *)) | (go_at_call 91; ((with_reducible refine (HR4.out _ (HRD.out.kp HD1.out.kp) HD1.out.src).mono ?_); rintro e w9 ⟨rfl, hS9, hg9⟩; have HZ := hid (HD1.out.read (HRD.out.kp HD1.out.kp) hS9 hg9))) | (go_at_call 92; ((with_reducible refine (HMQ.out _).mono ?_); rintro e w8 ⟨rfl, rfl⟩)))
          have hcv := own_str' (HZ.out.own.drewN 1)
          have HZD := hid (HZ.out.drewN 1)
          refine wp_region_still_tail 9 (by kernel_rfl) (by kernel_rfl) ?_
          change wpStill _ _ (w9.drewN 1) (fun a' => wpList _ _ _ _ a' (w9.drewN 1)) _ _
          generalize w9.drewN 1 = wd at *
          simp only [List.take_succ_cons, List.take_zero, List.drop_succ_cons, List.drop_zero]
          repeat still_step
          refine wpStill_step (fun K hK => ?_)
          go_simp
          refine ⟨.string (lvStr lv), ?_, ?_⟩
          · with_reducible refine (HLV.out _).mono ?_
            rintro e w5 ⟨rfl, rfl⟩
            exact ⟨rfl, rfl⟩
          refine hK _ ?_
          clear hK K hcv
          repeat still_step
          rw [wpStill]
          show wpList _ _ _ _ _ _
          go_wp2_with ((go_at_call 101; ((with_reducible refine (newRes A W.length c (strOf X) (lvStr lv) none 0 0 hNl _).mono ?_); rintro e wf ⟨rfl, hres, hbf⟩)))
          go_ret2
          rw [← HXe.out, ← HBe.out]
          have hb0 : BL.length = 0 := by rw [← HXL.out]; exact HX0.out
          refine ⟨_, none, 0, [], rfl, ?_, ?_, ?_, ?_⟩
          · rw [hb0]; exact hres
          · rw [hb0]; exact Rd.nil
          · exact ⟨by simp [hb0], fun i hi => by omega⟩
          · exact HBel.out.trans ((HZD.out.kp.toBelow (by have := HBq.out; omega) (by have := HQ.out; omega)).trans (hbf.mono (Nat.le_trans HBel.out.size HZD.out.kp.size)))
        · have hxe : ((xl : Int) == 0) = false := by simp; omega
          have HX0 := hid hx0
          have hxl4 : xl ≤ 4 := by rw [HXL.out]; exact hBLl
          clear hx0
          go_wp2_with (first | (go_at_call 90; ((with_reducible refine HAV.out.mono ?_); rintro e w1 ⟨rfl, k1, rfl⟩; have HD1 := hid (HDz.out.drewN k1); generalize wr.drewN k1 = w6 at *)) | (go_at_call 91; ((with_reducible refine (HR4.out _ (HRD.out.kp HD1.out.kp) HD1.out.src).mono ?_); rintro e w9 ⟨rfl, hS9, hg9⟩; have HZ := hid (HD1.out.read (HRD.out.kp HD1.out.kp) hS9 hg9))) | (go_at_call 92; ((with_reducible refine (HMQ.out _).mono ?_); rintro e w8 ⟨rfl, rfl⟩)))
          have hcv := own_str' (HZ.out.own.drewN 1)
          have HZD := hid (HZ.out.drewN 1)
          refine wp_region_still_tail 9 (by kernel_rfl) (by kernel_rfl) ?_
          change wpStill _ _ (w9.drewN 1) (fun a' => wpList _ _ _ _ a' (w9.drewN 1)) _ _
          generalize w9.drewN 1 = wd at *
          simp only [List.take_succ_cons, List.take_zero, List.drop_succ_cons, List.drop_zero]
          repeat still_step
          refine wpStill_step (fun K hK => ?_)
          go_simp
          refine ⟨.string (lvStr lv), ?_, ?_⟩
          · with_reducible refine (HLV.out _).mono ?_
            rintro e w5 ⟨rfl, rfl⟩
            exact ⟨rfl, rfl⟩
          refine hK _ ?_
          clear hK K hcv
          repeat still_step
          rw [wpStill]
          show wpList _ _ _ _ _ _
          go_wp2_with ((go_at_call 101; ((with_reducible refine (newRes A W.length c (strOf X) (lvStr lv) A7 xl c7 hNl _).mono ?_); rintro e wf ⟨rfl, hres, hbf⟩)))
          go_ret2
          rw [← HXe.out, ← HBe.out]
          obtain ⟨xs', ho, hs⟩ := HZD.out.segs
          obtain ⟨A', c', e, hR', _⟩ := ho.form
          injection e with e1 e2 e3
          subst e1 e3
          have e4 : xs'.length = BL.length := hs.1
          refine ⟨_, A7, c7, xs', rfl, ?_, ?_, ?_, ?_⟩
          · rw [← HXL.out]; exact hres
          · rw [← e4]; exact hR'.below hbf
          · exact hs.rd.below hbf
          · exact HBel.out.trans ((HZD.out.kp.toBelow (by have := HBq.out; omega) (by have := HQ.out; omega)).trans (hbf.mono (Nat.le_trans HBel.out.size HZD.out.kp.size)))
    · rcases (HSO.out (m, s) (by simp)).mode with h | h | h
      all_goals (dsimp only at h; subst h)
      · have HT0 := hid (show RAt W p ((1, 4) :: (s.length, cntB 1 v) :: (numD s ++ strD v S3)) from HT.out)
        obtain ⟨k, hk⟩ : ∃ k, k = s.length := ⟨_, rfl⟩
        obtain ⟨cv, hcv⟩ : ∃ cv, cv = cntB 1 v := ⟨_, rfl⟩
        have hcl := cnt_le 1 v
        rw [← hcv] at hcl
        rw [← hk, ← hcv] at HT0
        obtain ⟨r1, r2, r3, r4, r5⟩ := HT0.out
        obtain ⟨t1, t2⟩ := r5.app
        have hT1 := hid t1
        have HT3 := hid t2
        have HK := hid hk
        have HSG0 := hid (HSO.out (1, s) (by simp))
        have HS3 := hid (show ∀ x ∈ S3, SegOk x from fun x hx => HSO.out x (by simp [hx]))
        have HX3 := hid (show X = (o ++ s) ++ textOf S3 ∧ BL = (bl) ++ bytesOf S3 ∧ E = (p + 4 + cv + lenD (numD s)) + lenD (strD v S3) from by
          obtain ⟨x1, x2, x3⟩ := HX.out
          refine ⟨by rw [x1]; simp [textOf], by rw [x2]; simp [bytesOf], ?_⟩
          rw [x3, show strD v ((1, s) :: S3) = (1, 4) :: (s.length, cntB 1 v) :: (numD s ++ strD v S3) from rfl, lenD_cons, lenD_cons, lenD_app, ← hcv]
          dsimp only; omega)
        have HOL := hid (show o.length + s.length ≤ 800 ∧ bl.length ≤ 4 ∧ s.length ≤ 200 ∧ k = s.length from by
          obtain ⟨x1, x2, x3⟩ := HX3.out
          have y1 := congrArg List.length x1
          have y2 := congrArg List.length x2
          simp only [List.length_append] at y1 y2
          exact ⟨by omega, by omega, HSG0.out.len, hk⟩)
        have hk200 : k ≤ 200 := by have := HOL.out; omega
        have HP4 := hid r3
        have HR4 := hid (fun V (h : DecAt W A c q B p o bl w3 u11 u12 V) => show Calls Try.prog 91 #[.pointer (some ⟨q, 0, none⟩), .int .i64 4] V (fun e w' => e = .returned (.tuple #[.int .i64 1, .nilIface]) ∧ Src w' q A W.length c (p + 4) ∧ V.grownBy w' (some q)) from by
          have := RM.out p 4 (by omega) (by omega) V (by omega) (HRD.out.kp h.kp) h.src
          rw [r2] at this; exact this)
        have HMQ := hid (fun V => show Calls Try.prog 92 #[.int .i64 1] V (fun e w' => e = .returned (.tuple #[.int .i64 1, .nilIface]) ∧ V = w') from modeQ 1 (.inr (by unfold IsMode; omega)) V)
        have HCQ := hid (fun V (h : DecAt W A c q B (p + 4) o bl w3 u11 u12 V) => show Calls Try.prog 95 #[.int .i64 1, .pointer (some ⟨qv, 0, none⟩)] V (fun e w' => e = .returned (.int .i64 (cv : Nat)) ∧ Below V.heap.size V w') from by
          rw [hcv]
          exact cntQ 1 v qv (by unfold IsMode; omega) hv V ((h.kp.cell hqvB.1 hqvB.2).trans HVC.out))
        have HRC := hid (fun V (h : DecAt W A c q B (p + 4) o bl w3 u11 u12 V) => show Calls Try.prog 91 #[.pointer (some ⟨q, 0, none⟩), .int .i64 (cv : Nat)] V (fun e w' => e = .returned (.tuple #[.int .i64 (k : Nat), .nilIface]) ∧ Src w' q A W.length c (p + 4 + cv) ∧ V.grownBy w' (some q)) from by
          have := RM.out (p + 4) cv (by omega) (by omega) V (by omega) (HRD.out.kp h.kp) h.src
          rw [r4] at this; exact this)
        have HSG := hid (fun V (h : DecAt W A c q B (p + 4 + cv) o bl w3 u11 u12 V) => show Calls Try.prog 97 #[.pointer (some ⟨q, 0, none⟩), u11, .int .i64 k] V _ from numSeg W A c q B (p + 4 + cv) u11 s o k V (HRD.out.kp h.kp) h.src h.own hT1.out (HSG0.out.dig rfl) HK.out (by have := HOL.out; omega))
        have hD4' : ¬ (D : Int) < 4 := by omega
        clear hcv hk r1 r2 r3 r4 r5 t1 t2 HT0 HT HX HSO hD hpE
        go_wp2_with (first
          | (go_at_call 90; ((with_reducible refine HAV.out.mono ?_); rintro e w1 ⟨rfl, k1, rfl⟩; have HD1 := hid (HD.out.drewN k1); generalize wr.drewN k1 = w6 at *))
          | (go_at_call 91; ((with_reducible refine (HR4.out _ HD1.out).mono ?_); rintro e w7 ⟨rfl, hS7, hg7⟩; have HD2 := hid (HD1.out.read (HRD.out.kp HD1.out.kp) hS7 hg7)))
          | (go_at_call 92; ((with_reducible refine (HMQ.out _).mono ?_); rintro e w8 ⟨rfl, rfl⟩))
          | (go_at_call 95; ((with_reducible refine (HCQ.out _ HD2.out).mono ?_); rintro e w8 ⟨rfl, hb8⟩; have HD3 := hid (HD2.out.below (HRD.out.kp HD2.out.kp).bs hb8)))
          | (go_at_call 91; ((with_reducible refine (HRC.out _ HD3.out).mono ?_); rintro e w9 ⟨rfl, hS9, hg9⟩; have HD4 := hid (HD3.out.read (HRD.out.kp HD3.out.kp) hS9 hg9)))
          | (go_at_call 97; ((with_reducible refine (HSG.out _ HD4.out).mono ?_); rintro e wA ⟨v', rfl, hsA, hoA, hkA, hfA⟩; have HD5 := hid (HD4.out.seg (HRD.out.kp HD4.out.kp) hsA hoA hkA hfA))))
        go_roundg (S3.length + 1)
        case measure => simp
        case rel => exact ⟨_, _, _, S3, rfl, rfl, rfl, rfl, rfl, rfl, rfl, HD5, HT3, HX3, HS3⟩
      · have HT0 := hid (show RAt W p ((2, 4) :: (s.length, cntB 2 v) :: (alphD s ++ strD v S3)) from HT.out)
        obtain ⟨k, hk⟩ : ∃ k, k = s.length := ⟨_, rfl⟩
        obtain ⟨cv, hcv⟩ : ∃ cv, cv = cntB 2 v := ⟨_, rfl⟩
        have hcl := cnt_le 2 v
        rw [← hcv] at hcl
        rw [← hk, ← hcv] at HT0
        obtain ⟨r1, r2, r3, r4, r5⟩ := HT0.out
        obtain ⟨t1, t2⟩ := r5.app
        have hT1 := hid t1
        have HT3 := hid t2
        have HK := hid hk
        have HSG0 := hid (HSO.out (2, s) (by simp))
        have HS3 := hid (show ∀ x ∈ S3, SegOk x from fun x hx => HSO.out x (by simp [hx]))
        have HX3 := hid (show X = (o ++ s) ++ textOf S3 ∧ BL = (bl) ++ bytesOf S3 ∧ E = (p + 4 + cv + lenD (alphD s)) + lenD (strD v S3) from by
          obtain ⟨x1, x2, x3⟩ := HX.out
          refine ⟨by rw [x1]; simp [textOf], by rw [x2]; simp [bytesOf], ?_⟩
          rw [x3, show strD v ((2, s) :: S3) = (2, 4) :: (s.length, cntB 2 v) :: (alphD s ++ strD v S3) from rfl, lenD_cons, lenD_cons, lenD_app, ← hcv]
          dsimp only; omega)
        have HOL := hid (show o.length + s.length ≤ 800 ∧ bl.length ≤ 4 ∧ s.length ≤ 200 ∧ k = s.length from by
          obtain ⟨x1, x2, x3⟩ := HX3.out
          have y1 := congrArg List.length x1
          have y2 := congrArg List.length x2
          simp only [List.length_append] at y1 y2
          exact ⟨by omega, by omega, HSG0.out.len, hk⟩)
        have hk200 : k ≤ 200 := by have := HOL.out; omega
        have HP4 := hid r3
        have HR4 := hid (fun V (h : DecAt W A c q B p o bl w3 u11 u12 V) => show Calls Try.prog 91 #[.pointer (some ⟨q, 0, none⟩), .int .i64 4] V (fun e w' => e = .returned (.tuple #[.int .i64 2, .nilIface]) ∧ Src w' q A W.length c (p + 4) ∧ V.grownBy w' (some q)) from by
          have := RM.out p 4 (by omega) (by omega) V (by omega) (HRD.out.kp h.kp) h.src
          rw [r2] at this; exact this)
        have HMQ := hid (fun V => show Calls Try.prog 92 #[.int .i64 2] V (fun e w' => e = .returned (.tuple #[.int .i64 2, .nilIface]) ∧ V = w') from modeQ 2 (.inr (by unfold IsMode; omega)) V)
        have HCQ := hid (fun V (h : DecAt W A c q B (p + 4) o bl w3 u11 u12 V) => show Calls Try.prog 95 #[.int .i64 2, .pointer (some ⟨qv, 0, none⟩)] V (fun e w' => e = .returned (.int .i64 (cv : Nat)) ∧ Below V.heap.size V w') from by
          rw [hcv]
          exact cntQ 2 v qv (by unfold IsMode; omega) hv V ((h.kp.cell hqvB.1 hqvB.2).trans HVC.out))
        have HRC := hid (fun V (h : DecAt W A c q B (p + 4) o bl w3 u11 u12 V) => show Calls Try.prog 91 #[.pointer (some ⟨q, 0, none⟩), .int .i64 (cv : Nat)] V (fun e w' => e = .returned (.tuple #[.int .i64 (k : Nat), .nilIface]) ∧ Src w' q A W.length c (p + 4 + cv) ∧ V.grownBy w' (some q)) from by
          have := RM.out (p + 4) cv (by omega) (by omega) V (by omega) (HRD.out.kp h.kp) h.src
          rw [r4] at this; exact this)
        have HSG := hid (fun V (h : DecAt W A c q B (p + 4 + cv) o bl w3 u11 u12 V) => show Calls Try.prog 98 #[.pointer (some ⟨q, 0, none⟩), u11, .int .i64 k, .bool false] V _ from alphSeg W A c q B (p + 4 + cv) u11 s o k V (HRD.out.kp h.kp) h.src h.own hT1.out (HSG0.out.alp rfl) HK.out (by have := HOL.out; omega))
        have hD4' : ¬ (D : Int) < 4 := by omega
        clear hcv hk r1 r2 r3 r4 r5 t1 t2 HT0 HT HX HSO hD hpE
        go_wp2_with (first
          | (go_at_call 90; ((with_reducible refine HAV.out.mono ?_); rintro e w1 ⟨rfl, k1, rfl⟩; have HD1 := hid (HD.out.drewN k1); generalize wr.drewN k1 = w6 at *))
          | (go_at_call 91; ((with_reducible refine (HR4.out _ HD1.out).mono ?_); rintro e w7 ⟨rfl, hS7, hg7⟩; have HD2 := hid (HD1.out.read (HRD.out.kp HD1.out.kp) hS7 hg7)))
          | (go_at_call 92; ((with_reducible refine (HMQ.out _).mono ?_); rintro e w8 ⟨rfl, rfl⟩))
          | (go_at_call 95; ((with_reducible refine (HCQ.out _ HD2.out).mono ?_); rintro e w8 ⟨rfl, hb8⟩; have HD3 := hid (HD2.out.below (HRD.out.kp HD2.out.kp).bs hb8)))
          | (go_at_call 91; ((with_reducible refine (HRC.out _ HD3.out).mono ?_); rintro e w9 ⟨rfl, hS9, hg9⟩; have HD4 := hid (HD3.out.read (HRD.out.kp HD3.out.kp) hS9 hg9)))
          | (go_at_call 98; ((with_reducible refine (HSG.out _ HD4.out).mono ?_); rintro e wA ⟨v', rfl, hsA, hoA, hkA, hfA⟩; have HD5 := hid (HD4.out.seg (HRD.out.kp HD4.out.kp) hsA hoA hkA hfA))))
        go_roundg (S3.length + 1)
        case measure => simp
        case rel => exact ⟨_, _, _, S3, rfl, rfl, rfl, rfl, rfl, rfl, rfl, HD5, HT3, HX3, HS3⟩
      · have HT0 := hid (show RAt W p ((4, 4) :: (s.length, cntB 4 v) :: (byteD s ++ strD v S3)) from HT.out)
        obtain ⟨k, hk⟩ : ∃ k, k = s.length := ⟨_, rfl⟩
        obtain ⟨cv, hcv⟩ : ∃ cv, cv = cntB 4 v := ⟨_, rfl⟩
        have hcl := cnt_le 4 v
        rw [← hcv] at hcl
        rw [← hk, ← hcv] at HT0
        obtain ⟨r1, r2, r3, r4, r5⟩ := HT0.out
        obtain ⟨t1, t2⟩ := r5.app
        have hT1 := hid t1
        have HT3 := hid t2
        have HK := hid hk
        have HSG0 := hid (HSO.out (4, s) (by simp))
        have HS3 := hid (show ∀ x ∈ S3, SegOk x from fun x hx => HSO.out x (by simp [hx]))
        have HX3 := hid (show X = (o ++ s) ++ textOf S3 ∧ BL = (bl ++ [s]) ++ bytesOf S3 ∧ E = (p + 4 + cv + lenD (byteD s)) + lenD (strD v S3) from by
          obtain ⟨x1, x2, x3⟩ := HX.out
          refine ⟨by rw [x1]; simp [textOf], by rw [x2]; simp [bytesOf], ?_⟩
          rw [x3, show strD v ((4, s) :: S3) = (4, 4) :: (s.length, cntB 4 v) :: (byteD s ++ strD v S3) from rfl, lenD_cons, lenD_cons, lenD_app, ← hcv]
          dsimp only; omega)
        have HOL := hid (show o.length + s.length ≤ 800 ∧ bl.length ≤ 4 ∧ s.length ≤ 200 ∧ k = s.length from by
          obtain ⟨x1, x2, x3⟩ := HX3.out
          have y1 := congrArg List.length x1
          have y2 := congrArg List.length x2
          simp only [List.length_append] at y1 y2
          exact ⟨by omega, by omega, HSG0.out.len, hk⟩)
        have hk200 : k ≤ 200 := by have := HOL.out; omega
        have HP4 := hid r3
        have HR4 := hid (fun V (h : DecAt W A c q B p o bl w3 u11 u12 V) => show Calls Try.prog 91 #[.pointer (some ⟨q, 0, none⟩), .int .i64 4] V (fun e w' => e = .returned (.tuple #[.int .i64 4, .nilIface]) ∧ Src w' q A W.length c (p + 4) ∧ V.grownBy w' (some q)) from by
          have := RM.out p 4 (by omega) (by omega) V (by omega) (HRD.out.kp h.kp) h.src
          rw [r2] at this; exact this)
        have HMQ := hid (fun V => show Calls Try.prog 92 #[.int .i64 4] V (fun e w' => e = .returned (.tuple #[.int .i64 4, .nilIface]) ∧ V = w') from modeQ 4 (.inr (by unfold IsMode; omega)) V)
        have HCQ := hid (fun V (h : DecAt W A c q B (p + 4) o bl w3 u11 u12 V) => show Calls Try.prog 95 #[.int .i64 4, .pointer (some ⟨qv, 0, none⟩)] V (fun e w' => e = .returned (.int .i64 (cv : Nat)) ∧ Below V.heap.size V w') from by
          rw [hcv]
          exact cntQ 4 v qv (by unfold IsMode; omega) hv V ((h.kp.cell hqvB.1 hqvB.2).trans HVC.out))
        have HRC := hid (fun V (h : DecAt W A c q B (p + 4) o bl w3 u11 u12 V) => show Calls Try.prog 91 #[.pointer (some ⟨q, 0, none⟩), .int .i64 (cv : Nat)] V (fun e w' => e = .returned (.tuple #[.int .i64 (k : Nat), .nilIface]) ∧ Src w' q A W.length c (p + 4 + cv) ∧ V.grownBy w' (some q)) from by
          have := RM.out (p + 4) cv (by omega) (by omega) V (by omega) (HRD.out.kp h.kp) h.src
          rw [r4] at this; exact this)
        have HSG := hid (fun V (h : DecAt W A c q B (p + 4 + cv) o bl w3 u11 u12 V) => show Calls Try.prog 99 #[.pointer (some ⟨q, 0, none⟩), u11, .int .i64 k, .pointer none, u12, .map none] V _ from byteSeg W A c q B (p + 4 + cv) u11 u12 (.map none) s o bl k w3 V (HRD.out.kp h.kp) h hT1.out (by have := HP4.out; omega) HK.out (by have := HOL.out; omega) (by have := HOL.out; omega) (by have := HOL.out; omega) HSG0.out.lt)
        have hD4' : ¬ (D : Int) < 4 := by omega
        clear hcv hk r1 r2 r3 r4 r5 t1 t2 HT0 HT HX HSO hD hpE
        go_wp2_with (first
          | (go_at_call 90; ((with_reducible refine HAV.out.mono ?_); rintro e w1 ⟨rfl, k1, rfl⟩; have HD1 := hid (HD.out.drewN k1); generalize wr.drewN k1 = w6 at *))
          | (go_at_call 91; ((with_reducible refine (HR4.out _ HD1.out).mono ?_); rintro e w7 ⟨rfl, hS7, hg7⟩; have HD2 := hid (HD1.out.read (HRD.out.kp HD1.out.kp) hS7 hg7)))
          | (go_at_call 92; ((with_reducible refine (HMQ.out _).mono ?_); rintro e w8 ⟨rfl, rfl⟩))
          | (go_at_call 95; ((with_reducible refine (HCQ.out _ HD2.out).mono ?_); rintro e w8 ⟨rfl, hb8⟩; have HD3 := hid (HD2.out.below (HRD.out.kp HD2.out.kp).bs hb8)))
          | (go_at_call 91; ((with_reducible refine (HRC.out _ HD3.out).mono ?_); rintro e w9 ⟨rfl, hS9, hg9⟩; have HD4 := hid (HD3.out.read (HRD.out.kp HD3.out.kp) hS9 hg9)))
          | (go_at_call 99; ((with_reducible refine (HSG.out _ HD4.out).mono ?_); rintro e wA ⟨v', b', rfl, hdA⟩; have HD5 := hid hdA)))
        go_roundg (S3.length + 1)
        case measure => simp
        case rel => exact ⟨_, _, _, S3, rfl, rfl, rfl, rfl, rfl, rfl, rfl, HD5, HT3, HX3, HS3⟩
end Go.Proofs.Ytpffffhgmhpkiaa
