/- impl.DMParse. -/
import Derived.Test.YtfmjkflihnfneaaDoorDoA
namespace Go.Proofs.YtfmjkflihnfneaaDoor
open Go.RowKit
set_option linter.unusedVariables false
set_option linter.unusedSimpArgs false
set_option maxRecDepth 20000 in
set_option maxHeartbeats 8000000 in
theorem parseM (W X : List Nat) (A : Option Addr) (c : Nat) (w : World) (hR : Rd w A W.length (u8s W)) (hlt : ∀ j, W.getD j 0 < 256) (hn : W.length ≤ 4000) (hT : Says W X 1 0 []) (hX : X.length ≤ 90000) :
    Calls Tryd.prog 10 #[.slice A W.length c] w (DecOut (strOf X) w) := by
  obtain ⟨i5, gi, gz0, gz1, gz2⟩ := info_of info5
  obtain ⟨N, hN⟩ : ∃ N, N = W.length := ⟨_, rfl⟩
  have HA0 := hid (show Arr (w.alloc (.cells #[.string ⟨#[]⟩, .slice none 0 0, .slice none 0 0, .string ⟨#[]⟩, .int .i64 0, .int .i64 0, .int .i64 0, .int .i64 0] 37)) w.heap.size 37 zer37 from Arr.of_new w 37 #[.string ⟨#[]⟩, .slice none 0 0, .slice none 0 0, .string ⟨#[]⟩, .int .i64 0, .int .i64 0, .int .i64 0, .int .i64 0])
  have HB1 := hid ((Below.refl w.heap.size w).alloc (Nat.le_refl _) (.cells #[.string ⟨#[]⟩, .slice none 0 0, .slice none 0 0, .string ⟨#[]⟩, .int .i64 0, .int .i64 0, .int .i64 0, .int .i64 0] 37))
  have HR1 := hid (show Rd (w.alloc (.cells #[.string ⟨#[]⟩, .slice none 0 0, .slice none 0 0, .string ⟨#[]⟩, .int .i64 0, .int .i64 0, .int .i64 0, .int .i64 0] 37)) A N (u8s W) from by rw [hN]; exact hR.alloc _)
  have HPM := hid (fun V A c (hR : Rd V A N (u8s W)) (hA : ∀ a, A = some a → a.block < V.heap.size) => show Calls Tryd.prog 18 #[.slice A N c] V (ParseOut A N c X V) from by rw [hN] at hR ⊢; exact decodeM W X A c V hR hlt hn hA hT hX)
  have hNl : N ≤ 4000 := by omega
  have m1 := hid (show ([] : List Value).length + N ≤ maxLen by simp [maxLen]; omega)
  have m2 := hid (show (([] : List Value).length + N) * 1 ≤ 140737488355328 by simp; omega)
  have HUL := hid (show (u8s W).length = N from by rw [u8s_len, hN])
  have hul := u8s_one W
  rw [← hN]
  clear hR hlt hn hT hX hN
  go_enter Tryd.func10, Tryd.ntmps10
  go_wp2_with (first
    | (at_builtin; refine wpList_app _ rfl _ _ 28 rfl (w.heap.size + 1) 5 i5 _ 1 Tryd.underlying28 gi gz0 gz1 gz2 rfl (.slice none 0 0) [] rfl (Own.nil _ _ _) _ N c (u8s W) rfl HR1.out hul m1.out m2.out (by simp) ?_; intro v5 w5 hO5 hg5 hown5; rw [List.nil_append] at hO5; obtain ⟨A5, c5, rfl, hR5, _⟩ := hO5.form; rw [HUL.out] at hO5 hR5 ⊢; have HO5 := hid hO5; have HAB := hid (fun a (ha : A5 = some a) => (HO5.out.lt a.block (by rw [ha]; rfl)).2); have HB5 := hid (HB1.out.grown hg5 (by simp) (fun k hk => by cases hk)); have HA5 := hid (HA0.out.grown hg5 (by intro e; cases e)))
    | (go_at_call 18; ((with_reducible refine (HPM.out _ _ _ hR5 HAB.out).mono ?_); rintro e w6 ⟨d, Ab, nb, cb, xs, sm, rfl, hres, hrb, hsg, hnb, hb6⟩))
    | (go_at_call 17; ((with_reducible refine (decodedM d _ N _ (strOf X) Ab nb cb sm W xs _ hNl hnb hres (hR5.below hb6) hrb hsg).mono ?_); rintro e w7 ⟨a1, a2, a3, n4, n5, n6, n7, x3, A1, A2, m1, c1, m2, c2, rfl, hb7⟩; have HB7 := hid ((HB5.out.trans (hb6.mono HB5.out.size)).trans (hb7.mono (Nat.le_trans HB5.out.size hb6.size))); have HA5 := hid ((HA5.out.below hb6 HA5.out.lt).below hb7 (Nat.lt_of_lt_of_le HA5.out.lt hb6.size)); have d0 := HA5.out.cell? 0; have f0 := HA5.out.frozen 0; have d1 := HA5.out.cell? 1; have f1 := HA5.out.frozen 1; have d2 := HA5.out.cell? 2; have f2 := HA5.out.frozen 2; have d3 := HA5.out.cell? 3; have f3 := HA5.out.frozen 3; have d4 := HA5.out.cell? 4; have f4 := HA5.out.frozen 4; have d5 := HA5.out.cell? 5; have f5 := HA5.out.frozen 5; have d6 := HA5.out.cell? 6; have f6 := HA5.out.frozen 6; have d7 := HA5.out.cell? 7; have f7 := HA5.out.frozen 7; simp only [zer37, List.getElem?_cons_zero, List.getElem?_cons_succ] at d0 d1 d2 d3 d4 d5 d6 d7)))
  have q0 := (HA5.out.set 0 (Value.string (strOf X))).cell? 0
  have q1 := ((HA5.out.set 0 (Value.string (strOf X))).set 1 (Value.slice A1 m1 c1)).cell? 1
  have q2 := (((HA5.out.set 0 (Value.string (strOf X))).set 1 (Value.slice A1 m1 c1)).set 2 (Value.slice A2 m2 c2)).cell? 2
  have q3 := ((((HA5.out.set 0 (Value.string (strOf X))).set 1 (Value.slice A1 m1 c1)).set 2 (Value.slice A2 m2 c2)).set 3 (Value.string x3)).cell? 3
  have q4 := (((((HA5.out.set 0 (Value.string (strOf X))).set 1 (Value.slice A1 m1 c1)).set 2 (Value.slice A2 m2 c2)).set 3 (Value.string x3)).set 4 (Value.int .i64 n4)).cell? 4
  have q5 := ((((((HA5.out.set 0 (Value.string (strOf X))).set 1 (Value.slice A1 m1 c1)).set 2 (Value.slice A2 m2 c2)).set 3 (Value.string x3)).set 4 (Value.int .i64 n4)).set 5 (Value.int .i64 n5)).cell? 5
  have q6 := (((((((HA5.out.set 0 (Value.string (strOf X))).set 1 (Value.slice A1 m1 c1)).set 2 (Value.slice A2 m2 c2)).set 3 (Value.string x3)).set 4 (Value.int .i64 n4)).set 5 (Value.int .i64 n5)).set 6 (Value.int .i64 n6)).cell? 6
  have q7 := ((((((((HA5.out.set 0 (Value.string (strOf X))).set 1 (Value.slice A1 m1 c1)).set 2 (Value.slice A2 m2 c2)).set 3 (Value.string x3)).set 4 (Value.int .i64 n4)).set 5 (Value.int .i64 n5)).set 6 (Value.int .i64 n6)).set 7 (Value.int .i64 n7)).cell? 7
  simp only [zer37, List.set_cons_zero, List.set_cons_succ, List.getElem?_cons_zero, List.getElem?_cons_succ] at q0 q1 q2 q3 q4 q5 q6 q7
  refine bodyPost_ret (v := .tuple #[.agg #[.string (strOf X), .slice A1 m1 c1, .slice A2 m2 c2, .string x3, .int .i64 n4, .int .i64 n5, .int .i64 n6, .int .i64 n7], .bool true]) (by simp [results, Tryd.results10, go_sem, q0, q1, q2, q3, q4, q5, q6, q7]) rfl ?_
  exact ⟨.nilIface, .nilIface, .nilIface, n4, n5, n6, n7, x3, A1, A2, _, _, _, _, rfl, ((((((((HB7.out.setCell (Nat.le_refl _) _).setCell (Nat.le_refl _) _).setCell (Nat.le_refl _) _).setCell (Nat.le_refl _) _).setCell (Nat.le_refl _) _).setCell (Nat.le_refl _) _).setCell (Nat.le_refl _) _).setCell (Nat.le_refl _) _)⟩
end Go.Proofs.YtfmjkflihnfneaaDoor
