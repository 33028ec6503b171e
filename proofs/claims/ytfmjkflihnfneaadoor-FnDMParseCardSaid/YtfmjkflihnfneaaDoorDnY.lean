/- The reader's result: how it is made and read; impl.decoded. -/
import Derived.Test.YtfmjkflihnfneaaDoorDnQ
namespace Go.Proofs.YtfmjkflihnfneaaDoor
open Go.RowKit
set_option linter.unusedVariables false
set_option linter.unusedSimpArgs false

/-- A result of the reader in block d. -/
def IsRes (w : World) (d : Nat) (raw : Value) (n : Nat) (st : ByteArray) (bs : Value) (sm : Int) : Prop :=
  Arr w d 86 [raw, .int .i64 (8 * n : Nat), .string st, bs, .string ⟨#[]⟩, .int .i64 0, .int .i64 0, .nilIface, .int .i64 (-1), .int .i64 (-1), .int .i64 sm]
set_option maxRecDepth 20000 in
theorem newResM (A : Option Addr) (n c : Nat) (st : ByteArray) (Ab : Option Addr) (nb cb : Nat) (sm : Int) (hn : n ≤ 4000) (w : World) :
    Calls Tryd.prog 42 #[.slice A n c, .string st, .slice Ab nb cb, .string ⟨#[]⟩, .int .i64 sm] w (fun e w' => e = .returned (.pointer (some ⟨w.heap.size, 0, none⟩)) ∧ IsRes w' w.heap.size (.slice A n c) n st (.slice Ab nb cb) sm ∧ Below w.heap.size w w') := by
  have H : ∀ W, Calls Tryd.prog 60 #[.slice A n c, .string st, .slice Ab nb cb, .string ⟨#[]⟩, .int .i64 (-1), .int .i64 (-1), .int .i64 sm] W (fun e w' => e = .returned (.pointer (some ⟨W.heap.size, 0, none⟩)) ∧ IsRes w' W.heap.size (.slice A n c) n st (.slice Ab nb cb) sm ∧ Below W.heap.size W w') := by
    intro W
    go_enter Tryd.func60, Tryd.ntmps60
    go_wp2_with fail
    go_ret
    refine ⟨rfl, ?_, (Below.refl _ _).alloc (Nat.le_refl _) _⟩
    exact Arr.of_new W 86 #[.slice A n c, .int .i64 (8 * n : Nat), .string st, .slice Ab nb cb, .string ⟨#[]⟩, .int .i64 0, .int .i64 0, .nilIface, .int .i64 (-1), .int .i64 (-1), .int .i64 sm]
  have HH := hid H
  clear H
  go_enter Tryd.func42, Tryd.ntmps42
  go_wp2_with (go_at_call 60; ((with_reducible refine (HH.out _).mono ?_); rintro e w' ⟨rfl, h1, h2⟩))
  go_ret
  exact ⟨rfl, h1, h2⟩
section
variable {w : World} {d : Nat} {raw : Value} {n : Nat} {st : ByteArray} {bs : Value} {sm : Int}
theorem get24 (h : IsRes w d raw n st bs sm) : Calls Tryd.prog 24 #[.pointer (some ⟨d, 0, none⟩)] w (fun e w' => e = .returned (bs) ∧ w = w') := by
  have c := h.cell? 3
  simp only [List.getElem?_cons_zero, List.getElem?_cons_succ] at c
  clear h
  go_enter Tryd.func24, Tryd.ntmps24
  go_wp2_with fail
  go_ret
  exact ⟨rfl, rfl⟩
theorem get25 (h : IsRes w d raw n st bs sm) : Calls Tryd.prog 25 #[.pointer (some ⟨d, 0, none⟩)] w (fun e w' => e = .returned (.string st) ∧ w = w') := by
  have c := h.cell? 2
  simp only [List.getElem?_cons_zero, List.getElem?_cons_succ] at c
  clear h
  go_enter Tryd.func25, Tryd.ntmps25
  go_wp2_with fail
  go_ret
  exact ⟨rfl, rfl⟩
theorem get26 (h : IsRes w d raw n st bs sm) : Calls Tryd.prog 26 #[.pointer (some ⟨d, 0, none⟩)] w (fun e w' => e = .returned (raw) ∧ w = w') := by
  have c := h.cell? 0
  simp only [List.getElem?_cons_zero, List.getElem?_cons_succ] at c
  clear h
  go_enter Tryd.func26, Tryd.ntmps26
  go_wp2_with fail
  go_ret
  exact ⟨rfl, rfl⟩
theorem get27 (h : IsRes w d raw n st bs sm) : Calls Tryd.prog 27 #[.pointer (some ⟨d, 0, none⟩)] w (fun e w' => e = .returned (.string ⟨#[]⟩) ∧ w = w') := by
  have c := h.cell? 4
  simp only [List.getElem?_cons_zero, List.getElem?_cons_succ] at c
  clear h
  go_enter Tryd.func27, Tryd.ntmps27
  go_wp2_with fail
  go_ret
  exact ⟨rfl, rfl⟩
theorem get28 (h : IsRes w d raw n st bs sm) : Calls Tryd.prog 28 #[.pointer (some ⟨d, 0, none⟩)] w (fun e w' => e = .returned (.int .i64 0) ∧ w = w') := by
  have c := h.cell? 5
  simp only [List.getElem?_cons_zero, List.getElem?_cons_succ] at c
  clear h
  go_enter Tryd.func28, Tryd.ntmps28
  go_wp2_with fail
  go_ret
  exact ⟨rfl, rfl⟩
theorem get29 (h : IsRes w d raw n st bs sm) : Calls Tryd.prog 29 #[.pointer (some ⟨d, 0, none⟩)] w (fun e w' => e = .returned (.int .i64 (-1)) ∧ w = w') := by
  have c := h.cell? 9
  simp only [List.getElem?_cons_zero, List.getElem?_cons_succ] at c
  clear h
  go_enter Tryd.func29, Tryd.ntmps29
  go_wp2_with fail
  go_ret
  exact ⟨rfl, rfl⟩
theorem get30 (h : IsRes w d raw n st bs sm) : Calls Tryd.prog 30 #[.pointer (some ⟨d, 0, none⟩)] w (fun e w' => e = .returned (.int .i64 (-1)) ∧ w = w') := by
  have c := h.cell? 8
  simp only [List.getElem?_cons_zero, List.getElem?_cons_succ] at c
  clear h
  go_enter Tryd.func30, Tryd.ntmps30
  go_wp2_with fail
  go_ret
  exact ⟨rfl, rfl⟩
theorem get31 (h : IsRes w d raw n st bs sm) : Calls Tryd.prog 31 #[.pointer (some ⟨d, 0, none⟩)] w (fun e w' => e = .returned (.int .i64 sm) ∧ w = w') := by
  have c := h.cell? 10
  simp only [List.getElem?_cons_zero, List.getElem?_cons_succ] at c
  clear h
  go_enter Tryd.func31, Tryd.ntmps31
  go_wp2_with fail
  go_ret
  exact ⟨rfl, rfl⟩
end
theorem info28' : (Tryd.prog.info? 28).map (fun i => (i.zero, i.size, i.bytes)) = some (some (.slice none 0 0), 1, 24) := by kernel_rfl
/-- Slices of bytes that can be read. -/
def SegRd (w : World) (xs : List Value) : Prop := ∀ x ∈ xs, ∃ (g n : Nat) (l : List Nat), x = .slice (some ⟨g, 0, none⟩) n n ∧ n ≤ 1600 ∧ Arr w g 5 (u8s l) ∧ l.length = n
def zer37 : List Value := [.string ⟨#[]⟩, .slice none 0 0, .slice none 0 0, .string ⟨#[]⟩, .int .i64 0, .int .i64 0, .int .i64 0, .int .i64 0]
/-- A result of impl's own, with its text, and no error. -/
def DecOut (st : ByteArray) (w : World) (e : Ending) (w' : World) : Prop :=
  ∃ (a1 a2 a3 : Value) (n4 n5 n6 n7 : Int) (x3 : ByteArray) (A1 A2 : Option Addr) (m1 c1 m2 c2 : Nat), e = .returned (.tuple #[.agg #[.string st, .slice A1 m1 c1, .slice A2 m2 c2, .string x3, .int .i64 n4, .int .i64 n5, .int .i64 n6, .int .i64 n7], .bool true]) ∧ Below w.heap.size w w'
set_option maxRecDepth 20000 in
set_option maxHeartbeats 8000000 in
theorem decodedM (d : Nat) (A : Option Addr) (n c : Nat) (st : ByteArray) (Ab : Option Addr) (nb cb : Nat) (sm : Int) (W : List Nat) (xs : List Value) (w : World) (hn : n ≤ 4000) (hnb : nb ≤ 4000)
    (h : IsRes w d (.slice A n c) n st (.slice Ab nb cb) sm) (hR : Rd w A n (u8s W)) (hB : Rd w Ab nb xs) (hx : SegRd w xs) :
    Calls Tryd.prog 17 #[.pointer (some ⟨d, 0, none⟩), .nilIface] w (DecOut st w) := by
  obtain ⟨i5, gi, gz0, gz1, gz2⟩ := info_of info5
  obtain ⟨i28, si, sz0, sz1, sz2⟩ := info_of info28'
  have hdl : d < w.heap.size := h.lt
  have HD := hid h
  have HR := hid hR
  have HBB := hid hB
  have HXS := hid hx
  have HG := hid (fun V (hb : Below w.heap.size w V) => show IsRes V d (.slice A n c) n st (.slice Ab nb cb) sm from Arr.below h hb hdl)
  have HA0 := hid (show Arr (w.alloc (.cells #[.string ⟨#[]⟩, .slice none 0 0, .slice none 0 0, .string ⟨#[]⟩, .int .i64 0, .int .i64 0, .int .i64 0, .int .i64 0] 37)) w.heap.size 37 zer37 from Arr.of_new w 37 #[.string ⟨#[]⟩, .slice none 0 0, .slice none 0 0, .string ⟨#[]⟩, .int .i64 0, .int .i64 0, .int .i64 0, .int .i64 0])
  have HB1 := hid ((Below.refl w.heap.size w).alloc (Nat.le_refl _) (.cells #[.string ⟨#[]⟩, .slice none 0 0, .slice none 0 0, .string ⟨#[]⟩, .int .i64 0, .int .i64 0, .int .i64 0, .int .i64 0] 37))
  have H24 := hid (get24 (HG.out _ HB1.out))
  obtain ⟨r0, hr0⟩ : ∃ r0, r0 = w.heap.size := ⟨_, rfl⟩
  clear h hR hB hx
  go_enter Tryd.func17, Tryd.ntmps17
  go_wp2_with (go_at_call 24; ((with_reducible refine H24.out.mono ?_); rintro e w' ⟨rfl, rfl⟩))
  rw [← hr0]
  rw [← hr0] at HA0
  have HR0 := hid hr0
  clear H24 hr0
  go_loopg [6, 15] nb (fun gk ov iv wr => ∃ (k : Nat) (ys : List Value), k ≤ nb ∧ gk = nb - k ∧ ys.length = k ∧ iv = .int .i64 (k : Nat) ∧ Hid (Own wr (r0 + 1) 28 ov ys) ∧ Hid (Below w.heap.size w wr) ∧ Hid (Arr wr r0 37 zer37) ∧ r0 + 1 ≤ wr.heap.size)
  case atStart => exact ⟨0, [], by omega, by omega, rfl, rfl, hid (Own.nil _ _ _), HB1, HA0, by have := HR0.out; simp; omega⟩
  case round =>
    clear HA0 HB1
    obtain ⟨k, ys, hk1, rfl, hyl, rfl, HO, HB, HA0, hs1⟩ := hrel
    by_cases hlt : k < nb
    case pos =>
      have hlt' : (k : Int) < (nb : Int) := by omega
      obtain ⟨bb, bo, hAb, hbl, hcc⟩ := HBB.out.2 (by omega)
      subst hAb
      have hkx : k < xs.length := by rw [HBB.out.1]; exact hlt
      have c0 := (HB.out.cell (p := ⟨bb, bo + k, none⟩) hbl).trans (hcc k hkx)
      obtain ⟨g, m, l, hxe, hm, hArr, hlm⟩ := HXS.out _ (List.getElem_mem hkx)
      rw [hxe] at c0
      have HRG := hid (show Rd wr (some ⟨g, 0, none⟩) m (u8s l) from by
        have := Rd.of_arr (hArr.below HB.out hArr.lt)
        rwa [u8s_len, hlm] at this)
      have m1 := hid (show ([] : List Value).length + m ≤ maxLen by simp [maxLen]; omega)
      have m2 := hid (show (([] : List Value).length + m) * 1 ≤ 140737488355328 by simp; omega)
      have m3 := hid (show ys.length + 1 ≤ maxLen by simp [maxLen]; omega)
      have m4 := hid (show (ys.length + 1) * 24 ≤ 140737488355328 by omega)
      have HS1 := hid hs1
      have hul := u8s_one l
      have HYL := hid hyl
      clear hcc hxe hArr hlm hyl
      go_wp2_with (first
        | (at_builtin; refine wpList_app _ rfl _ _ 28 rfl (r0 + 1) 5 i5 _ 1 Tryd.underlying28 gi gz0 gz1 gz2 rfl (.slice none 0 0) [] rfl (Own.nil _ _ _) _ m m (u8s l) rfl HRG.out hul m1.out m2.out HS1.out ?_; intro v5 w5 hO5 hg5 hown5; rw [List.nil_append] at hO5; obtain ⟨A5, c5, rfl, _, _⟩ := hO5.form; have HO6 := hid (HO.out.keep hg5 (Classical.em _)))
        | (at_builtin; refine wpList_app _ rfl _ _ 35 rfl (r0 + 1) 28 i28 _ 24 Tryd.underlying35 si sz0 sz1 sz2 rfl _ ys rfl (HO6.out.alloc _) _ 1 1 [_] rfl (Rd.one' _ _ _ _ (by first | rfl | (simp; done))) (by intro u hu; rw [List.mem_singleton.1 hu]; rfl) m3.out m4.out (Nat.le_trans HS1.out (Nat.le_trans hg5.size (by simp <;> omega))) ?_))
      intro v6 w6 hO6 hg6 hown6
      have HB5 := hid (HB.out.grown hg5 (by have := HR0.out; omega) (fun k hk => by cases hk))
      have HB6 := hid ((HB5.out.alloc (Nat.le_trans (by have := HR0.out; have := HS1.out; omega) hg5.size) (.cells #[.slice A5 (u8s l).length c5] 28)).grown hg6 (Nat.le_trans (by have := HR0.out; have := HS1.out; omega) (Nat.le_trans hg5.size (by simp <;> omega))) (fun k hk => by have h9 := (HO.out.lt k hk).1; have := HR0.out; omega))
      have HA6 := hid (((HA0.out.grown hg5 (by intro e; cases e)).alloc (.cells #[.slice A5 (u8s l).length c5] 28)).grown hg6 (fun e => by have := (HO.out.lt r0 e.symm).1; omega))
      have HO7 := hid (show Own w6 (r0 + 1) 28 v6 (ys ++ [.slice A5 (u8s l).length c5]) from hO6)
      have HS6 := Nat.le_trans HS1.out (Nat.le_trans hg5.size (Nat.le_trans (show w5.heap.size ≤ _ from by simp <;> omega) hg6.size))
      clear hO6 hg6 hown6 hO5 hg5 hown5 HO HB HA0 HB5 HO6 m1 m2 m3 m4
      go_wp2_with fail
      go_roundg (nb - (k + 1))
      case measure => omega
      case rel => exact ⟨k + 1, _, by omega, rfl, by rw [List.length_append, HYL.out]; rfl, by go_num, HO7, HB6, HA6, HS6⟩
    case neg =>
      obtain rfl : k = nb := by omega
      have hlt' : ¬ (k : Int) < (k : Int) := by omega
      obtain ⟨A6, c6, hv6, _, _⟩ := HO.out.form
      subst hv6
      have HG1 := hid (HG.out wr HB.out)
      have HRR := hid (HR.out.below HB.out)
      have hWl : n = W.length := by have := HR.out.1; rw [u8s_len] at this; exact this.symm
      have m1 := hid (show ([] : List Value).length + n ≤ maxLen by simp [maxLen]; omega)
      have m2 := hid (show (([] : List Value).length + n) * 1 ≤ 140737488355328 by simp; omega)
      have hul := u8s_one W
      have HS1 := hid hs1
      have hgb : w.heap.size ≤ r0 := by rw [HR0.out]; exact Nat.le_refl _
      clear hWl hyl
      go_wp2_with (first
        | (go_at_call 25; ((with_reducible refine (get25 HG1.out).mono ?_); rintro e w' ⟨rfl, rfl⟩)) | (go_at_call 26; ((with_reducible refine (get26 HG1.out).mono ?_); rintro e w' ⟨rfl, rfl⟩))
        | (at_builtin; refine wpList_app _ rfl _ _ 28 rfl (r0 + 1) 5 i5 _ 1 Tryd.underlying28 gi gz0 gz1 gz2 rfl (.slice none 0 0) [] rfl (Own.nil _ _ _) _ n c (u8s W) rfl HRR.out hul m1.out m2.out HS1.out ?_; intro v5 w5 hO5 hg5 hown5; rw [List.nil_append] at hO5; obtain ⟨A5, c5, rfl, _, _⟩ := hO5.form; have HB5 := hid (HB.out.grown hg5 (by have := HR0.out; have := HS1.out; omega) (fun k hk => by cases hk)); have HG5 := hid (HG.out w5 HB5.out); have HA5 := hid (HA0.out.grown hg5 (by intro e; cases e)); have d0 := HA5.out.cell? 0; have f0 := HA5.out.frozen 0; have d1 := HA5.out.cell? 1; have f1 := HA5.out.frozen 1; have d2 := HA5.out.cell? 2; have f2 := HA5.out.frozen 2; have d3 := HA5.out.cell? 3; have f3 := HA5.out.frozen 3; have d4 := HA5.out.cell? 4; have f4 := HA5.out.frozen 4; have d5 := HA5.out.cell? 5; have f5 := HA5.out.frozen 5; have d6 := HA5.out.cell? 6; have f6 := HA5.out.frozen 6; have d7 := HA5.out.cell? 7; have f7 := HA5.out.frozen 7; simp only [zer37, List.getElem?_cons_zero, List.getElem?_cons_succ] at d0 d1 d2 d3 d4 d5 d6 d7) | (go_at_call 27; ((with_reducible refine (get27 HG5.out).mono ?_); rintro e w' ⟨rfl, rfl⟩)) | (go_at_call 28; ((with_reducible refine (get28 HG5.out).mono ?_); rintro e w' ⟨rfl, rfl⟩)) | (go_at_call 29; ((with_reducible refine (get29 HG5.out).mono ?_); rintro e w' ⟨rfl, rfl⟩)) | (go_at_call 30; ((with_reducible refine (get30 HG5.out).mono ?_); rintro e w' ⟨rfl, rfl⟩)) | (go_at_call 31; ((with_reducible refine (get31 HG5.out).mono ?_); rintro e w' ⟨rfl, rfl⟩)))
      have q0 := (HA5.out.set 0 (Value.string st)).cell? 0
      have q1 := ((HA5.out.set 0 (Value.string st)).set 1 (Value.slice A5 (u8s W).length c5)).cell? 1
      have q2 := (((HA5.out.set 0 (Value.string st)).set 1 (Value.slice A5 (u8s W).length c5)).set 2 (Value.slice A6 ys.length c6)).cell? 2
      have q3 := ((((HA5.out.set 0 (Value.string st)).set 1 (Value.slice A5 (u8s W).length c5)).set 2 (Value.slice A6 ys.length c6)).set 3 (Value.string ⟨#[]⟩)).cell? 3
      have q4 := (((((HA5.out.set 0 (Value.string st)).set 1 (Value.slice A5 (u8s W).length c5)).set 2 (Value.slice A6 ys.length c6)).set 3 (Value.string ⟨#[]⟩)).set 4 (Value.int .i64 0)).cell? 4
      have q5 := ((((((HA5.out.set 0 (Value.string st)).set 1 (Value.slice A5 (u8s W).length c5)).set 2 (Value.slice A6 ys.length c6)).set 3 (Value.string ⟨#[]⟩)).set 4 (Value.int .i64 0)).set 5 (Value.int .i64 (-1))).cell? 5
      have q6 := (((((((HA5.out.set 0 (Value.string st)).set 1 (Value.slice A5 (u8s W).length c5)).set 2 (Value.slice A6 ys.length c6)).set 3 (Value.string ⟨#[]⟩)).set 4 (Value.int .i64 0)).set 5 (Value.int .i64 (-1))).set 6 (Value.int .i64 (-1))).cell? 6
      have q7 := ((((((((HA5.out.set 0 (Value.string st)).set 1 (Value.slice A5 (u8s W).length c5)).set 2 (Value.slice A6 ys.length c6)).set 3 (Value.string ⟨#[]⟩)).set 4 (Value.int .i64 0)).set 5 (Value.int .i64 (-1))).set 6 (Value.int .i64 (-1))).set 7 (Value.int .i64 sm)).cell? 7
      simp only [zer37, List.set_cons_zero, List.set_cons_succ, List.getElem?_cons_zero, List.getElem?_cons_succ] at q0 q1 q2 q3 q4 q5 q6 q7
      refine bodyPost_ret (v := .tuple #[.agg #[.string st, .slice A5 (u8s W).length c5, .slice A6 ys.length c6, .string ⟨#[]⟩, .int .i64 0, .int .i64 (-1), .int .i64 (-1), .int .i64 sm], .bool true]) (by simp [results, Tryd.results17, go_sem, q0, q1, q2, q3, q4, q5, q6, q7]) rfl ?_
      exact ⟨.nilIface, .nilIface, .nilIface, 0, -1, -1, sm, ⟨#[]⟩, A5, A6, _, _, _, _, rfl, ((((((((HB5.out.setCell hgb _).setCell hgb _).setCell hgb _).setCell hgb _).setCell hgb _).setCell hgb _).setCell hgb _).setCell hgb _)⟩
end Go.Proofs.YtfmjkflihnfneaaDoor
