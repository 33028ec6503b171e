/- QR codes: impl.QRParse. Printed by gen_h.py. -/
import Derived.Test.YtpffffhgmhpkiaaSpG
import Derived.Test.YtpffffhgmhpkiaaShapeW
namespace Go.Proofs.Ytpffffhgmhpkiaa
open Go.RowKit
set_option linter.unusedVariables false
set_option linter.unusedSimpArgs false
theorem RdF.mono {w : World} {B C : Nat} {A : Option Addr} {n : Nat} {l : List Value} (h : RdF w B A n l) (hC : C ≤ B) : RdF w C A n l := ⟨h.1, fun h0 a ha => Nat.le_trans hC (h.2 h0 a ha)⟩
set_option maxRecDepth 20000 in
set_option maxHeartbeats 8000000 in
theorem parseQ (W : List Nat) (A : Option Addr) (c v lv : Nat) (S : List (Nat × List Nat)) (w : World) (hR : Rd w A W.length (u8s W)) (hlt : ∀ j, W.getD j 0 < 256) (hn : W.length ≤ 4000)
    (hv1 : 1 ≤ v) (hv : v ≤ 40) (hlv : lv < 4) (hS : ∀ x ∈ S, SegOk x) (hSl : S.length ≤ 4) (hT : RAt W 0 (strD v S))
    (hE : 8 * W.length - lenD (strD v S) < 4 ∨ lenD (strD v S) + 4 ≤ 8 * W.length ∧ rdn W (lenD (strD v S)) 4 = 0) (hEl : lenD (strD v S) ≤ 8 * W.length) :
    Calls Try.prog 23 #[.slice A W.length c, .int .i64 v, .int .i64 lv] w (DcdOut (strOf (textOf S)) (lvStr lv) W (bytesOf S) w) := by
  obtain ⟨i5, gi, gz0, gz1, gz2⟩ := info_of info5
  have gv := fun V => getVer v hv1 hv V
  obtain ⟨N, hN⟩ : ∃ N, N = W.length := ⟨_, rfl⟩
  have HA0 := hid (show Arr (w.alloc (.cells #[.string ⟨#[]⟩, .slice none 0 0, .slice none 0 0, .string ⟨#[]⟩, .int .i64 0, .int .i64 0, .int .i64 0, .int .i64 0] 53)) w.heap.size 53 zer53 from Arr.of_new w 53 #[.string ⟨#[]⟩, .slice none 0 0, .slice none 0 0, .string ⟨#[]⟩, .int .i64 0, .int .i64 0, .int .i64 0, .int .i64 0])
  have HB1 := hid ((Below.refl w.heap.size w).alloc (Nat.le_refl _) (.cells #[.string ⟨#[]⟩, .slice none 0 0, .slice none 0 0, .string ⟨#[]⟩, .int .i64 0, .int .i64 0, .int .i64 0, .int .i64 0] 53))
  have HR1 := hid (show Rd (w.alloc (.cells #[.string ⟨#[]⟩, .slice none 0 0, .slice none 0 0, .string ⟨#[]⟩, .int .i64 0, .int .i64 0, .int .i64 0, .int .i64 0] 53)) A N (u8s W) from by rw [hN]; exact hR.alloc _)
  have HDQ := hid (fun V A c qv (hR : Rd V A N (u8s W)) (hA : ∀ a, A = some a → a.block < V.heap.size) hq0 hql => show Calls Try.prog 53 #[.slice A N c, .pointer (some ⟨qv, 0, none⟩), .int .i64 lv, .map none] V (DecodeOut A N c (textOf S) (bytesOf S) (lvStr lv) V) from by
    rw [hN] at hR ⊢; exact decodeQ W A c v lv qv S V hR hlt hn hA hv hlv hq0 hql hS hSl hT hE hEl)
  have hbs := bytesOf_len S
  have hbl : ∀ i (h : i < (bytesOf S).length), (bytesOf S)[i].length ≤ 1000 := fun i h => by
    have hm := List.getElem_mem h
    unfold bytesOf at hm
    obtain ⟨x, hx, e⟩ := List.mem_map.1 hm
    have := (hS x (List.mem_filter.1 hx).1).len
    unfold bytesOf
    rw [← e]; omega
  have HCQ := hid (fun V d A c Ab cb xs (h : IsRes V d (.slice A N c) N (strOf (textOf S)) (.slice Ab (bytesOf S).length cb) (lvStr lv)) (hR : Rd V A N (u8s W)) hB hx => decodedQ d A N c (strOf (textOf S)) (lvStr lv) Ab (bytesOf S).length cb W (bytesOf S) xs V hN hn rfl (by omega) hbl h hR hB hx)
  have HNW := hid hN
  obtain ⟨X, hX⟩ : ∃ X, X = textOf S := ⟨_, rfl⟩
  obtain ⟨BL, hBL⟩ : ∃ BL, BL = bytesOf S := ⟨_, rfl⟩
  obtain ⟨ec, hec⟩ : ∃ ec, ec = lvStr lv := ⟨_, rfl⟩
  rw [← hX, ← hBL, ← hec] at HDQ HCQ
  rw [← hX, ← hBL, ← hec]
  have hNl : N ≤ 4000 := by omega
  have m1 := hid (show ([] : List Value).length + N ≤ maxLen by simp [maxLen]; omega)
  have m2 := hid (show (([] : List Value).length + N) * 1 ≤ 140737488355328 by simp; omega)
  have HUL := hid (show (u8s W).length = N from by rw [u8s_len, hN])
  have hul := u8s_one W
  obtain ⟨r0, hr0⟩ : ∃ r0, r0 = w.heap.size := ⟨_, rfl⟩
  rw [← hN]
  clear hR hlt hn hT hN hE hEl hX hBL hec hbl hbs hS
  go_enter Try.func23, Try.ntmps23
  go_wp2_with fail
  rw [← hr0] at HA0 ⊢
  refine (gv _).mono ?_
  rintro e w1 ⟨qv, rfl, hI, hb1⟩
  obtain ⟨C, E', zz, hQ, _⟩ := hI
  have HQ0 := hid (hQ.cell? 0)
  have HQL := hid hQ.lt
  have HB2 := hid (HB1.out.trans (hb1.mono HB1.out.size))
  have HR2 := hid (HR1.out.below hb1)
  have HA2 := hid (HA0.out.below hb1 HA0.out.lt)
  have HR0 := hid hr0
  have hs1 : r0 + 1 ≤ w1.heap.size := by have := HA2.out.lt; omega
  clear gv hQ hb1 HB1 HR1 HA0 hr0
  go_wp2_with (first
    | (at_builtin; refine wpList_app _ rfl _ _ 22 rfl (r0 + 1) 5 i5 _ 1 Try.underlying22 gi gz0 gz1 gz2 rfl (.slice none 0 0) [] rfl (Own.nil _ _ _) _ N c (u8s W) rfl HR2.out hul m1.out m2.out hs1 ?_; intro v5 w5 hO5 hg5 hown5; rw [List.nil_append] at hO5; obtain ⟨A5, c5, rfl, hR5, _⟩ := hO5.form; rw [HUL.out] at hO5 hR5 ⊢; have HO5 := hid hO5; have HAB := hid (fun a (ha : A5 = some a) => (HO5.out.lt a.block (by rw [ha]; rfl)).2); have HB5 := hid (HB2.out.grown hg5 (by have := HR0.out; omega) (fun k hk => by cases hk)); have HA5 := hid (HA2.out.grown hg5 (by intro e; cases e)); have HQ5 := hid (World.grownBy.cell hg5 HQ0.out (fun e => by cases e)); have hql5 := Nat.lt_of_lt_of_le HQL.out hg5.size)
    | (go_at_call 53; ((with_reducible refine (HDQ.out _ _ _ _ hR5 HAB.out HQ5.out hql5).mono ?_); rintro e w6 ⟨d, Ab, cb, xs, rfl, hres, hrb, hsg, hb6⟩))
    | (go_at_call 52; ((with_reducible refine (HCQ.out _ d _ _ Ab cb xs hres (hR5.below hb6) hrb hsg).mono ?_); rintro e w7 ⟨A1, A2, c1, c2, xs7, rfl, hra, hrb7, hsg7, hb7⟩; obtain ⟨bn, hbn⟩ : ∃ bn, bn = BL.length := ⟨_, rfl⟩; have HBN := hid hbn; rw [← HNW.out, ← hbn]; have HRA := hid hra; have HRB := hid hrb7; have HSG := hid hsg7; have HB7 := hid ((HB5.out.trans (hb6.mono HB5.out.size)).trans (hb7.mono (Nat.le_trans HB5.out.size hb6.size))); have HS6 := hid (show r0 + 1 ≤ w6.heap.size from Nat.le_trans (Nat.le_trans hs1 hg5.size) hb6.size); have HA5 := hid ((HA5.out.below hb6 HA5.out.lt).below hb7 (Nat.lt_of_lt_of_le HA5.out.lt hb6.size)); have d0 := HA5.out.cell? 0; have f0 := HA5.out.frozen 0; have d1 := HA5.out.cell? 1; have f1 := HA5.out.frozen 1; have d2 := HA5.out.cell? 2; have f2 := HA5.out.frozen 2; have d3 := HA5.out.cell? 3; have f3 := HA5.out.frozen 3; have d4 := HA5.out.cell? 4; have f4 := HA5.out.frozen 4; have d5 := HA5.out.cell? 5; have f5 := HA5.out.frozen 5; have d6 := HA5.out.cell? 6; have f6 := HA5.out.frozen 6; have d7 := HA5.out.cell? 7; have f7 := HA5.out.frozen 7; simp only [zer53, List.getElem?_cons_zero, List.getElem?_cons_succ] at d0 d1 d2 d3 d4 d5 d6 d7; clear hbn)))
  have q0 := (HA5.out.set 0 (Value.string (strOf X))).cell? 0
  have q1 := ((HA5.out.set 0 (Value.string (strOf X))).set 1 (Value.slice A1 N c1)).cell? 1
  have q2 := (((HA5.out.set 0 (Value.string (strOf X))).set 1 (Value.slice A1 N c1)).set 2 (Value.slice A2 bn c2)).cell? 2
  have q3 := ((((HA5.out.set 0 (Value.string (strOf X))).set 1 (Value.slice A1 N c1)).set 2 (Value.slice A2 bn c2)).set 3 (Value.string ec)).cell? 3
  have q4 := (((((HA5.out.set 0 (Value.string (strOf X))).set 1 (Value.slice A1 N c1)).set 2 (Value.slice A2 bn c2)).set 3 (Value.string ec)).set 4 (Value.int .i64 0)).cell? 4
  have q5 := ((((((HA5.out.set 0 (Value.string (strOf X))).set 1 (Value.slice A1 N c1)).set 2 (Value.slice A2 bn c2)).set 3 (Value.string ec)).set 4 (Value.int .i64 0)).set 5 (Value.int .i64 (-1))).cell? 5
  have q6 := (((((((HA5.out.set 0 (Value.string (strOf X))).set 1 (Value.slice A1 N c1)).set 2 (Value.slice A2 bn c2)).set 3 (Value.string ec)).set 4 (Value.int .i64 0)).set 5 (Value.int .i64 (-1))).set 6 (Value.int .i64 (-1))).cell? 6
  have q7 := ((((((((HA5.out.set 0 (Value.string (strOf X))).set 1 (Value.slice A1 N c1)).set 2 (Value.slice A2 bn c2)).set 3 (Value.string ec)).set 4 (Value.int .i64 0)).set 5 (Value.int .i64 (-1))).set 6 (Value.int .i64 (-1))).set 7 (Value.int .i64 1)).cell? 7
  simp only [zer53, List.set_cons_zero, List.set_cons_succ, List.getElem?_cons_zero, List.getElem?_cons_succ] at q0 q1 q2 q3 q4 q5 q6 q7
  have hgb : w.heap.size ≤ r0 := by rw [HR0.out]; exact Nat.le_refl _
  have HF := hid (show ∀ (Ax : Option Addr) (nx : Nat) (lx : List Value), Rd w7 Ax nx lx → (0 < nx → ∀ a, Ax = some a → a.block ≠ r0) → Rd ((((((((w7.setCell ⟨r0, 0, none⟩ (Value.string (strOf X))).setCell ⟨r0, 1, none⟩ (Value.slice A1 N c1)).setCell ⟨r0, 2, none⟩ (Value.slice A2 bn c2)).setCell ⟨r0, 3, none⟩ (Value.string ec)).setCell ⟨r0, 4, none⟩ (Value.int .i64 0)).setCell ⟨r0, 5, none⟩ (Value.int .i64 (-1))).setCell ⟨r0, 6, none⟩ (Value.int .i64 (-1))).setCell ⟨r0, 7, none⟩ (Value.int .i64 1)) Ax nx lx from fun Ax nx lx hR hA => ((((((((hR.set_far hA _).set_far hA _).set_far hA _).set_far hA _).set_far hA _).set_far hA _).set_far hA _).set_far hA _))
  refine bodyPost_ret (v := .tuple #[.agg #[.string (strOf X), .slice A1 N c1, .slice A2 bn c2, .string ec, .int .i64 0, .int .i64 (-1), .int .i64 (-1), .int .i64 1], .bool true]) (by simp [results, Try.results23, go_sem, q0, q1, q2, q3, q4, q5, q6, q7]) rfl ?_
  have hle : w.heap.size ≤ w6.heap.size := by have := HS6.out; omega
  refine ⟨A1, A2, c1, c2, xs7, by rw [← HNW.out, ← HBN.out], ?_, ?_, ?_, ((((((((HB7.out.setCell hgb _).setCell hgb _).setCell hgb _).setCell hgb _).setCell hgb _).setCell hgb _).setCell hgb _).setCell hgb _)⟩
  · exact ⟨HF.out _ _ _ HRA.out.1 (fun h0 a ha => by have := HRA.out.2 h0 a ha; have := HS6.out; omega), fun h0 a ha => Nat.le_trans hle (HRA.out.2 h0 a ha)⟩
  · exact ⟨HF.out _ _ _ HRB.out.1 (fun h0 a ha => by have := HRB.out.2 h0 a ha; have := HS6.out; omega), fun h0 a ha => Nat.le_trans hle (HRB.out.2 h0 a ha)⟩
  · refine ⟨HSG.out.1, fun i hi => ?_⟩
    obtain ⟨A', c', a1, a2, a3⟩ := HSG.out.2 i hi
    exact ⟨A', c', a1, HF.out _ _ _ a2 (fun h0 a ha => by have := a3 h0 a ha; have := HS6.out; omega), fun h0 a ha => Nat.le_trans hle (a3 h0 a ha)⟩
end Go.Proofs.Ytpffffhgmhpkiaa
