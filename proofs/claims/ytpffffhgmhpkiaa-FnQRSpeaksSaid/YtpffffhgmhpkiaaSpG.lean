/- QR codes: impl.decoded: the reader's result as impl's own. Printed by gen_g.py. -/
import Derived.Test.YtpffffhgmhpkiaaSpF
namespace Go.Proofs.Ytpffffhgmhpkiaa
open Go.RowKit
set_option linter.unusedVariables false
set_option linter.unusedSimpArgs false

def zer53 : List Value := [.string ⟨#[]⟩, .slice none 0 0, .slice none 0 0, .string ⟨#[]⟩, .int .i64 0, .int .i64 0, .int .i64 0, .int .i64 0]
/-- Copies of the segments of bytes, none of them in the block that the list grows in. -/
def SegsC (w : World) (B : Nat) (ov : Value) (xs : List Value) (bl : List (List Nat)) : Prop :=
  xs.length = bl.length ∧ ∀ i (h : i < bl.length), ∃ A c, xs[i]? = some (.slice A bl[i].length c) ∧ Rd w A bl[i].length (u8s bl[i]) ∧ (0 < bl[i].length → ∀ a, A = some a → ov.ownBlock ≠ some a.block ∧ B ≤ a.block)
theorem Rd.grow0 {w w' : World} {A : Option Addr} {n : Nat} {l : List Value} {r : Option Nat} (h : Rd w A n l) (hg : w.grownBy w' r) (hne : 0 < n → ∀ a, A = some a → some a.block ≠ r) : Rd w' A n l := by
  by_cases hn : 0 < n
  · exact h.grown hg (hne hn)
  · exact ⟨h.1, fun h0 => absurd h0 hn⟩
theorem SegsC.app {wr w5 w6 : World} {B : Nat} {ov v6 : Value} {ys : List Value} {bl : List (List Nat)} {A5 : Option Addr} {n c5 : Nat} {l : List Nat} {O : Obj} (h : SegsC wr B ov ys bl) (hO : Own wr B 22 ov ys) (hBs : B ≤ wr.heap.size)
    (hR5 : Rd w5 A5 n (u8s l)) (hn : n = l.length) (hg5 : wr.grownBy w5 none) (ho5 : (Value.slice A5 n c5).ownBlock = (Value.slice none 0 0).ownBlock ∨ (Value.slice A5 n c5).ownBlock = some wr.heap.size)
    (hg6 : (w5.alloc O).grownBy w6 ov.ownBlock) (ho6 : v6.ownBlock = ov.ownBlock ∨ v6.ownBlock = some (w5.alloc O).heap.size) : SegsC w6 B v6 (ys ++ [.slice A5 n c5]) (bl ++ [l]) := by
  have lo := hO.lt
  have s5 := hg5.size
  have v6n : ∀ g, g < w5.heap.size → ov.ownBlock ≠ some g → v6.ownBlock ≠ some g := fun g h1 h2 => by
    rcases ho6 with e | e
    · rw [e]; exact h2
    · rw [e]; intro h3; injection h3 with h3; simp only [World.size_alloc] at h3; omega
  refine ⟨by simp [h.1], fun i hi => ?_⟩
  by_cases hlt : i < bl.length
  · obtain ⟨A, c, a1, a2, a3⟩ := h.2 i hlt
    rw [List.getElem_append_left hlt]
    refine ⟨A, c, by rw [List.getElem?_append_left (by rw [h.1]; exact hlt)]; exact a1, ((a2.grow0 hg5 (fun _ a _ e => by cases e)).alloc O).grow0 hg6 (fun h0 a ha e => (a3 h0 a ha).1 e.symm), fun h0 a ha => ⟨v6n _ ?_ (a3 h0 a ha).1, (a3 h0 a ha).2⟩⟩
    obtain ⟨b, o, hA, hb, _⟩ := a2.2 h0
    rw [hA] at ha; injection ha with ha; subst ha
    exact Nat.lt_of_lt_of_le hb s5
  · obtain rfl : i = bl.length := by simp at hi; omega
    rw [List.getElem_append_right (Nat.le_refl _)]
    simp only [Nat.sub_self, List.getElem_cons_zero]
    have e5 : ∀ a, A5 = some a → a.block = wr.heap.size := fun a ha => by
      rcases ho5 with e | e
      · rw [ha] at e; simp [Value.ownBlock] at e
      · rw [ha] at e; simpa [Value.ownBlock] using e
    have n5 : ∀ a, A5 = some a → ov.ownBlock ≠ some a.block := fun a ha e => by have := (lo a.block e).2; have := e5 a ha; omega
    refine ⟨A5, c5, by rw [List.getElem?_append_right (by rw [h.1]; exact Nat.le_refl _), h.1, Nat.sub_self, hn]; rfl, ?_, fun h0 a ha => ⟨v6n _ ?_ (n5 a ha), by rw [e5 a ha]; exact hBs⟩⟩
    · rw [← hn]
      exact (hR5.alloc O).grow0 hg6 (fun h0 a ha e => n5 a ha e.symm)
    · obtain ⟨b, o, hA, hb, _⟩ := hR5.2 (by omega)
      rw [hA] at ha; injection ha with ha; subst ha
      exact hb
/-- A slice that can be read, in blocks from B on. -/
def RdF (w : World) (B : Nat) (A : Option Addr) (n : Nat) (l : List Value) : Prop := Rd w A n l ∧ (0 < n → ∀ a, A = some a → B ≤ a.block)
/-- Segments of bytes as they can be read. -/
def SegG (w : World) (B : Nat) (xs : List Value) (bl : List (List Nat)) : Prop :=
  xs.length = bl.length ∧ ∀ i (h : i < bl.length), ∃ A c, xs[i]? = some (.slice A bl[i].length c) ∧ RdF w B A bl[i].length (u8s bl[i])
/-- A result of impl's own, and no error. -/
def DcdOut (st ec : ByteArray) (W : List Nat) (BL : List (List Nat)) (w : World) (e : Ending) (w' : World) : Prop :=
  ∃ (A1 A2 : Option Addr) (c1 c2 : Nat) (xs : List Value), e = .returned (.tuple #[.agg #[.string st, .slice A1 W.length c1, .slice A2 BL.length c2, .string ec, .int .i64 0, .int .i64 (-1), .int .i64 (-1), .int .i64 1], .bool true]) ∧
    RdF w' w.heap.size A1 W.length (u8s W) ∧ RdF w' w.heap.size A2 BL.length xs ∧ SegG w' w.heap.size xs BL ∧ Below w.heap.size w w'
theorem Rd.set_far {w : World} {A : Option Addr} {n : Nat} {l : List Value} {p : Addr} (h : Rd w A n l) (hA : 0 < n → ∀ a, A = some a → a.block ≠ p.block) (v : Value) : Rd (w.setCell p v) A n l :=
  ⟨h.1, fun hn => by
    obtain ⟨b, o, e, hb, hc⟩ := h.2 hn
    refine ⟨b, o, e, by rw [World.size_setCell]; exact hb, fun k hk => ?_⟩
    rw [World.cell?_setCell_far _ _ _ _ (by have := hA hn _ e; exact fun h => this h.symm)]
    exact hc k hk⟩
set_option maxRecDepth 20000 in
set_option maxHeartbeats 8000000 in
theorem decodedQ (d : Nat) (A : Option Addr) (n c : Nat) (st ec : ByteArray) (Ab : Option Addr) (nb cb : Nat) (W : List Nat) (BL : List (List Nat)) (xs : List Value) (w : World) (hn : n = W.length) (hn4 : W.length ≤ 4000) (hnb : nb = BL.length) (hnb4 : BL.length ≤ 4) (hbl : ∀ i (h : i < BL.length), BL[i].length ≤ 1000)
    (h : IsRes w d (.slice A n c) n st (.slice Ab nb cb) ec) (hR : Rd w A n (u8s W)) (hB : Rd w Ab nb xs) (hx : SegRd w xs BL) :
    Calls Try.prog 52 #[.pointer (some ⟨d, 0, none⟩), .nilIface] w (DcdOut st ec W BL w) := by
  obtain ⟨i5, gi, gz0, gz1, gz2⟩ := info_of info5
  obtain ⟨i22, si, sz0, sz1, sz2⟩ := info_of info22
  have hdl : d < w.heap.size := h.lt
  have HR := hid hR
  have HBB := hid hB
  have HXS := hid hx
  have HN := hid hn
  have HNB := hid hnb
  have HBL := hid hbl
  have hn4' : n ≤ 4000 := by omega
  have hnb4' : nb ≤ 4 := by omega
  have HG := hid (fun V (hb : Below w.heap.size w V) => show IsRes V d (.slice A n c) n st (.slice Ab nb cb) ec from Arr.below h hb hdl)
  have HA0 := hid (show Arr (w.alloc (.cells #[.string ⟨#[]⟩, .slice none 0 0, .slice none 0 0, .string ⟨#[]⟩, .int .i64 0, .int .i64 0, .int .i64 0, .int .i64 0] 53)) w.heap.size 53 zer53 from Arr.of_new w 53 #[.string ⟨#[]⟩, .slice none 0 0, .slice none 0 0, .string ⟨#[]⟩, .int .i64 0, .int .i64 0, .int .i64 0, .int .i64 0])
  have HB1 := hid ((Below.refl w.heap.size w).alloc (Nat.le_refl _) (.cells #[.string ⟨#[]⟩, .slice none 0 0, .slice none 0 0, .string ⟨#[]⟩, .int .i64 0, .int .i64 0, .int .i64 0, .int .i64 0] 53))
  have H24 := hid (get81 (HG.out _ HB1.out))
  obtain ⟨r0, hr0⟩ : ∃ r0, r0 = w.heap.size := ⟨_, rfl⟩
  clear h hR hB hx hn hnb hbl
  go_enter Try.func52, Try.ntmps52
  go_wp2_with (go_at_call 81; ((with_reducible refine H24.out.mono ?_); rintro e w' ⟨rfl, rfl⟩))
  rw [← hr0]
  rw [← hr0] at HA0
  have HR0 := hid hr0
  clear H24 hr0
  go_loopg [6, 15] nb (fun gk ov iv wr => ∃ (k : Nat) (ys : List Value), k ≤ nb ∧ gk = nb - k ∧ iv = .int .i64 (k : Nat) ∧ Hid (Own wr (r0 + 1) 22 ov ys) ∧ Hid (SegsC wr (r0 + 1) ov ys (BL.take k)) ∧ Hid (Below w.heap.size w wr) ∧ Hid (Arr wr r0 53 zer53) ∧ r0 + 1 ≤ wr.heap.size)
  case atStart => exact ⟨0, [], by omega, by omega, rfl, hid (Own.nil _ _ _), hid ⟨by simp, fun i hi => by simp at hi⟩, HB1, HA0, by have := HR0.out; simp; omega⟩
  case round =>
    clear HA0 HB1
    obtain ⟨k, ys, hk1, rfl, rfl, HO, HSC, HB, HA0, hs1⟩ := hrel
    by_cases hlt : k < nb
    case pos =>
      have hlt' : (k : Int) < (nb : Int) := by omega
      obtain ⟨bb, bo, hAb, hbl, hcc⟩ := HBB.out.2 (by omega)
      subst hAb
      have hkx : k < xs.length := by rw [HBB.out.1]; exact hlt
      have hkb : k < BL.length := by rw [← HNB.out]; exact hlt
      have c0 := (HB.out.cell (p := ⟨bb, bo + k, none⟩) hbl).trans (hcc k hkx)
      obtain ⟨g, hxe, hArr⟩ := HXS.out.2 k hkb
      rw [List.getElem?_eq_getElem hkx] at hxe
      injection hxe with hxe
      rw [hxe] at c0
      obtain ⟨l, hl⟩ : ∃ l, l = BL[k] := ⟨_, rfl⟩
      have HLL := hid (show BL.take (k + 1) = BL.take k ++ [l] from by rw [List.take_succ_eq_append_getElem hkb, hl])
      have hlm := HBL.out k hkb
      rw [← hl] at c0 hArr hlm
      obtain ⟨m, hm⟩ : ∃ m, m = l.length := ⟨_, rfl⟩
      rw [← hm] at c0 hlm
      have HM := hid hm
      have HRG := hid (show Rd wr (some ⟨g, 0, none⟩) m (u8s l) from by
        have := Rd.of_arr (hArr.below HB.out hArr.lt)
        rwa [u8s_len, ← hm] at this)
      have m1 := hid (show ([] : List Value).length + m ≤ maxLen by simp [maxLen]; omega)
      have m2 := hid (show (([] : List Value).length + m) * 1 ≤ 140737488355328 by simp; omega)
      have hyl : ys.length ≤ 4 := by have := HSC.out.1; rw [List.length_take] at this; omega
      have m3 := hid (show ys.length + 1 ≤ maxLen by simp [maxLen]; omega)
      have m4 := hid (show (ys.length + 1) * 24 ≤ 140737488355328 by omega)
      have HS1 := hid hs1
      have hul := u8s_one l
      have HUL := hid (show (u8s l).length = m by rw [u8s_len, hm])
      clear hcc hxe hArr hyl hl hm hkx hkb
      go_wp2_with (first
        | (at_builtin; refine wpList_app _ rfl _ _ 22 rfl (r0 + 1) 5 i5 _ 1 Try.underlying22 gi gz0 gz1 gz2 rfl (.slice none 0 0) [] rfl (Own.nil _ _ _) _ m m (u8s l) rfl HRG.out hul m1.out m2.out HS1.out ?_; intro v5 w5 hO5 hg5 hown5; rw [List.nil_append] at hO5; obtain ⟨A5, c5, rfl, hR5, _⟩ := hO5.form; rw [HUL.out] at hR5 hO5 hown5 ⊢; have HO6 := hid (HO.out.keep hg5 (Classical.em _)); have HR5 := hid hR5; have HOW5 := hid hown5)
        | (at_builtin; refine wpList_app _ rfl _ _ 23 rfl (r0 + 1) 22 i22 _ 24 Try.underlying23 si sz0 sz1 sz2 rfl _ ys rfl (HO6.out.alloc _) _ 1 1 [_] rfl (Rd.one' _ _ _ _ (by first | rfl | (simp; done))) (by intro u hu; rw [List.mem_singleton.1 hu]; rfl) m3.out m4.out (Nat.le_trans HS1.out (Nat.le_trans hg5.size (by simp <;> omega))) ?_))
      intro v6 w6 hO6 hg6 hown6
      have HSC6 := hid (show SegsC w6 (r0 + 1) v6 (ys ++ [.slice A5 m c5]) (BL.take (k + 1)) from by rw [HLL.out]; exact HSC.out.app HO.out HS1.out HR5.out HM.out hg5 HOW5.out hg6 (by simpa using hown6))
      have HB5 := hid (HB.out.grown hg5 (by have := HR0.out; omega) (fun k hk => by cases hk))
      have HB6 := hid ((HB5.out.alloc (Nat.le_trans (by have := HR0.out; have := HS1.out; omega) hg5.size) (.cells #[.slice A5 m c5] 22)).grown hg6 (Nat.le_trans (by have := HR0.out; have := HS1.out; omega) (Nat.le_trans hg5.size (by simp <;> omega))) (fun k hk => by have h9 := (HO.out.lt k hk).1; have := HR0.out; omega))
      have HA6 := hid (((HA0.out.grown hg5 (by intro e; cases e)).alloc (.cells #[.slice A5 m c5] 22)).grown hg6 (fun e => by have := (HO.out.lt r0 e.symm).1; omega))
      have HO7 := hid (show Own w6 (r0 + 1) 22 v6 (ys ++ [.slice A5 m c5]) from hO6)
      have HS6 := Nat.le_trans HS1.out (Nat.le_trans hg5.size (Nat.le_trans (show w5.heap.size ≤ _ from by simp <;> omega) hg6.size))
      clear hO6 hg6 hown6 hO5 hg5 hown5 HO HB HA0 HB5 HO6 m1 m2 m3 m4 HSC HR5 HOW5 hR5
      go_wp2_with fail
      go_roundg (nb - (k + 1))
      case measure => omega
      case rel => exact ⟨k + 1, _, by omega, rfl, by go_num, HO7, HSC6, HB6, HA6, HS6⟩
    case neg =>
      obtain rfl : k = nb := by omega
      have hlt' : ¬ (k : Int) < (k : Int) := by omega
      obtain ⟨A6, c6, hv6, hR6, _⟩ := HO.out.form
      subst hv6
      have hyn : ys.length = k := by have := HSC.out.1; rw [List.length_take] at this; have := HNB.out; omega
      rw [hyn] at HO HSC hR6 ⊢
      have HBK := hid (show BL.take k = BL from by rw [HNB.out]; exact List.take_length)
      have HR6 := hid hR6
      have HG1 := hid (HG.out wr HB.out)
      have HRR := hid (HR.out.below HB.out)
      have m1 := hid (show ([] : List Value).length + n ≤ maxLen by simp [maxLen]; omega)
      have m2 := hid (show (([] : List Value).length + n) * 1 ≤ 140737488355328 by simp; omega)
      have hul := u8s_one W
      have HS1 := hid hs1
      have hgb : w.heap.size ≤ r0 := by rw [HR0.out]; exact Nat.le_refl _
      have HWL := hid (show (u8s W).length = n by rw [u8s_len, HN.out])
      clear hyn hR6
      go_wp2_with (first
        | (go_at_call 82; ((with_reducible refine (get82 HG1.out).mono ?_); rintro e w' ⟨rfl, rfl⟩)) | (go_at_call 83; ((with_reducible refine (get83 HG1.out).mono ?_); rintro e w' ⟨rfl, rfl⟩))
        | (at_builtin; refine wpList_app _ rfl _ _ 22 rfl (r0 + 1) 5 i5 _ 1 Try.underlying22 gi gz0 gz1 gz2 rfl (.slice none 0 0) [] rfl (Own.nil _ _ _) _ n c (u8s W) rfl HRR.out hul m1.out m2.out HS1.out ?_; intro v5 w5 hO5 hg5 hown5; rw [List.nil_append] at hO5; obtain ⟨A5, c5, rfl, hR5, _⟩ := hO5.form; rw [HWL.out] at hR5 hO5 hown5 ⊢; have HR5 := hid hR5; have HOW5 := hid hO5; have HB5 := hid (HB.out.grown hg5 (by have := HR0.out; have := HS1.out; omega) (fun k hk => by cases hk)); have HG5 := hid (HG.out w5 HB5.out); have HA5 := hid (HA0.out.grown hg5 (by intro e; cases e)); have d0 := HA5.out.cell? 0; have f0 := HA5.out.frozen 0; have d1 := HA5.out.cell? 1; have f1 := HA5.out.frozen 1; have d2 := HA5.out.cell? 2; have f2 := HA5.out.frozen 2; have d3 := HA5.out.cell? 3; have f3 := HA5.out.frozen 3; have d4 := HA5.out.cell? 4; have f4 := HA5.out.frozen 4; have d5 := HA5.out.cell? 5; have f5 := HA5.out.frozen 5; have d6 := HA5.out.cell? 6; have f6 := HA5.out.frozen 6; have d7 := HA5.out.cell? 7; have f7 := HA5.out.frozen 7; simp only [zer53, List.getElem?_cons_zero, List.getElem?_cons_succ] at d0 d1 d2 d3 d4 d5 d6 d7)
        | (go_at_call 84; ((with_reducible refine (get84 HG5.out).mono ?_); rintro e w' ⟨rfl, rfl⟩)) | (go_at_call 85; ((with_reducible refine (get85 HG5.out).mono ?_); rintro e w' ⟨rfl, rfl⟩)) | (go_at_call 86; ((with_reducible refine (get86 HG5.out).mono ?_); rintro e w' ⟨rfl, rfl⟩)) | (go_at_call 87; ((with_reducible refine (get87 HG5.out).mono ?_); rintro e w' ⟨rfl, rfl⟩)) | (go_at_call 88; ((with_reducible refine (get88 HG5.out).mono ?_); rintro e w' ⟨rfl, rfl⟩)))
      have q0 := (HA5.out.set 0 (Value.string st)).cell? 0
      have q1 := ((HA5.out.set 0 (Value.string st)).set 1 (Value.slice A5 n c5)).cell? 1
      have q2 := (((HA5.out.set 0 (Value.string st)).set 1 (Value.slice A5 n c5)).set 2 (Value.slice A6 k c6)).cell? 2
      have q3 := ((((HA5.out.set 0 (Value.string st)).set 1 (Value.slice A5 n c5)).set 2 (Value.slice A6 k c6)).set 3 (Value.string ec)).cell? 3
      have q4 := (((((HA5.out.set 0 (Value.string st)).set 1 (Value.slice A5 n c5)).set 2 (Value.slice A6 k c6)).set 3 (Value.string ec)).set 4 (Value.int .i64 0)).cell? 4
      have q5 := ((((((HA5.out.set 0 (Value.string st)).set 1 (Value.slice A5 n c5)).set 2 (Value.slice A6 k c6)).set 3 (Value.string ec)).set 4 (Value.int .i64 0)).set 5 (Value.int .i64 (-1))).cell? 5
      have q6 := (((((((HA5.out.set 0 (Value.string st)).set 1 (Value.slice A5 n c5)).set 2 (Value.slice A6 k c6)).set 3 (Value.string ec)).set 4 (Value.int .i64 0)).set 5 (Value.int .i64 (-1))).set 6 (Value.int .i64 (-1))).cell? 6
      have q7 := ((((((((HA5.out.set 0 (Value.string st)).set 1 (Value.slice A5 n c5)).set 2 (Value.slice A6 k c6)).set 3 (Value.string ec)).set 4 (Value.int .i64 0)).set 5 (Value.int .i64 (-1))).set 6 (Value.int .i64 (-1))).set 7 (Value.int .i64 1)).cell? 7
      simp only [zer53, List.set_cons_zero, List.set_cons_succ, List.getElem?_cons_zero, List.getElem?_cons_succ] at q0 q1 q2 q3 q4 q5 q6 q7
      have HF := hid (show ∀ (Ax : Option Addr) (nx : Nat) (lx : List Value), Rd w5 Ax nx lx → (0 < nx → ∀ a, Ax = some a → a.block ≠ r0) → Rd ((((((((w5.setCell ⟨r0, 0, none⟩ (Value.string st)).setCell ⟨r0, 1, none⟩ (Value.slice A5 n c5)).setCell ⟨r0, 2, none⟩ (Value.slice A6 k c6)).setCell ⟨r0, 3, none⟩ (Value.string ec)).setCell ⟨r0, 4, none⟩ (Value.int .i64 0)).setCell ⟨r0, 5, none⟩ (Value.int .i64 (-1))).setCell ⟨r0, 6, none⟩ (Value.int .i64 (-1))).setCell ⟨r0, 7, none⟩ (Value.int .i64 1)) Ax nx lx from fun Ax nx lx hR hA => ((((((((hR.set_far hA _).set_far hA _).set_far hA _).set_far hA _).set_far hA _).set_far hA _).set_far hA _).set_far hA _))
      have hg5n : wr.grownBy w5 none := hg5
      have HR7 := hid (show Rd w5 A6 k ys from HR6.out.grow0 hg5n (fun _ a ha e => by cases e))
      have HS7 := hid (show ∀ (A : Option Addr) (n : Nat) (l : List Value), Rd wr A n l → Rd w5 A n l from fun A n l h => h.grow0 hg5n (fun _ a ha e => by cases e))
      refine bodyPost_ret (v := .tuple #[.agg #[.string st, .slice A5 n c5, .slice A6 k c6, .string ec, .int .i64 0, .int .i64 (-1), .int .i64 (-1), .int .i64 1], .bool true]) (by simp [results, Try.results52, go_sem, q0, q1, q2, q3, q4, q5, q6, q7]) rfl ?_
      refine ⟨A5, A6, c5, c6, ys, by rw [← HN.out, ← HNB.out], ?_, ?_, ?_, ((((((((HB5.out.setCell hgb _).setCell hgb _).setCell hgb _).setCell hgb _).setCell hgb _).setCell hgb _).setCell hgb _).setCell hgb _)⟩
      · rw [← HN.out]
        exact ⟨HF.out _ _ _ HR5.out (fun _ a ha => by have := (HOW5.out.lt a.block (by rw [ha]; rfl)).1; omega), fun _ a ha => by have := (HOW5.out.lt a.block (by rw [ha]; rfl)).1; omega⟩
      · rw [← HNB.out]
        exact ⟨HF.out _ _ _ HR7.out (fun _ a ha => by have := (HO.out.lt a.block (by rw [ha]; rfl)).1; omega), fun _ a ha => by have := (HO.out.lt a.block (by rw [ha]; rfl)).1; omega⟩
      · have hsc := HSC.out
        rw [HBK.out] at hsc
        refine ⟨hsc.1, fun i hi => ?_⟩
        obtain ⟨A', c', a1, a2, a3⟩ := hsc.2 i hi
        exact ⟨A', c', a1, HF.out _ _ _ (HS7.out _ _ _ a2) (fun h0 a ha => by have := (a3 h0 a ha).2; omega), fun h0 a ha => by have := (a3 h0 a ha).2; omega⟩
end Go.Proofs.Ytpffffhgmhpkiaa
