/- Small numbers in digits; the reader's result: how it is made and read; impl.decoded. -/
import Derived.Test.YtliephokeafllaaGreatDoorAzD
import Derived.Deep.LoopGhost
namespace Go.Proofs.YtliephokeafllaaGreatDoor
open Go.RowKit
set_option linter.unusedVariables false
set_option linter.unusedSimpArgs false

/-- A number below 100 in digits. -/
def numL (d : Nat) : List Nat := if d < 10 then [48 + d] else [48 + d / 10, 48 + d % 10]
def digL : List Nat := [48, 49, 50, 51, 52, 53, 54, 55, 56, 57, 97, 98, 99, 100, 101, 102, 103, 104, 105, 106, 107, 108, 109, 110, 111, 112, 113, 114, 115, 116, 117, 118, 119, 120, 121, 122]
def digL2 : List Nat := (List.range 100).flatMap fun i => [48 + i / 10, 48 + i % 10]
theorem dig1 (d : Nat) (h : d < 10) : (strOf digL).extract d (d + 1) = strOf [48 + d] := by
  have h9 : ((List.range 10).all fun d => decide ((digL.drop d).take 1 = [48 + d])) = true := by decide +kernel
  have := List.all_eq_true.1 h9 d (List.mem_range.2 h)
  rw [strOf_ext, show d + 1 - d = 1 from by omega, of_decide_eq_true this]
theorem dig2 (d : Nat) (h : d < 100) : (strOf digL2).extract (d * 2) (d * 2 + 2) = strOf [48 + d / 10, 48 + d % 10] := by
  have h9 : ((List.range 100).all fun d => decide ((digL2.drop (d * 2)).take 2 = [48 + d / 10, 48 + d % 10])) = true := by decide +kernel
  have := List.all_eq_true.1 h9 d (List.mem_range.2 h)
  rw [strOf_ext, show d * 2 + 2 - d * 2 = 2 from by omega, of_decide_eq_true this]
set_option maxRecDepth 20000 in
theorem smallM (d : Nat) (hd : d < 100) (w : World) : Calls Tryz.prog 118 #[.int .i64 (d : Nat)] w (fun e w' => e = .returned (.string (strOf (numL d))) ∧ w = w') := by
  by_cases h : d < 10
  · have h' : (d : Int) < 10 := by omega
    have e1 : ((d : Int) + 1).toNat = d + 1 := by omega
    go_enter Tryz.func118, Tryz.ntmps118
    go_wp2_with fail
    go_ret
    refine ⟨?_, rfl⟩
    unfold numL
    rw [if_pos h, ← dig1 d h]
    rfl
  · have h' : ¬ (d : Int) < 10 := by omega
    have e1 : ((d : Int) * 2).toNat = d * 2 := by omega
    have e2 : ((d : Int) * 2 + 2).toNat = d * 2 + 2 := by omega
    go_enter Tryz.func118, Tryz.ntmps118
    go_wp2_with fail
    go_ret
    refine ⟨?_, rfl⟩
    unfold numL
    rw [if_neg h, ← dig2 d hd]
    rfl
theorem itoaM (d : Nat) (hd : d < 100) (w : World) : Calls Tryz.prog 45 #[.int .i64 (d : Nat)] w (fun e w' => e = .returned (.string (strOf (numL d))) ∧ w = w') := by
  have H63 : ∀ W, Calls Tryz.prog 105 #[.int .i64 (d : Nat), .int .i64 10] W (fun e w' => e = .returned (.string (strOf (numL d))) ∧ W = w') := by
    intro W
    have H := hid (fun V => smallM d hd V)
    generalize strOf (numL d) = s at *
    have h1 : (0 : Int) ≤ (d : Int) := by omega
    have h2 : (d : Int) < 100 := by omega
    go_enter Tryz.func105, Tryz.ntmps105
    go_wp2_with (go_at_call 118; ((with_reducible refine (H.out _).mono ?_); rintro e w' ⟨rfl, rfl⟩))
    go_ret
    exact ⟨rfl, rfl⟩
  have H62 : ∀ W, Calls Tryz.prog 74 #[.int .i64 (d : Nat)] W (fun e w' => e = .returned (.string (strOf (numL d))) ∧ W = w') := by
    intro W
    have H := hid H63
    generalize strOf (numL d) = s at *
    clear H63
    go_enter Tryz.func74, Tryz.ntmps74
    go_wp2_with (go_at_call 105; ((with_reducible refine (H.out _).mono ?_); rintro e w' ⟨rfl, rfl⟩))
    go_ret
    exact ⟨rfl, rfl⟩
  have H := hid H62
  generalize strOf (numL d) = s at *
  clear H63 H62
  go_enter Tryz.func45, Tryz.ntmps45
  go_wp2_with (go_at_call 74; ((with_reducible refine (H.out _).mono ?_); rintro e w' ⟨rfl, rfl⟩))
  go_ret
  exact ⟨rfl, rfl⟩

/-- A result of the reader in block d. -/
def IsRes (w : World) (d : Nat) (raw : Value) (nb : Nat) (st : ByteArray) (bs : Value) (lv : ByteArray) : Prop :=
  Arr w d 107 [raw, .int .i64 (nb : Nat), .string st, bs, .string lv, .int .i64 0, .int .i64 0, .nilIface, .int .i64 (-1), .int .i64 (-1), .int .i64 0]
set_option maxRecDepth 20000 in
theorem newResM (A : Option Addr) (n c : Nat) (st lv : ByteArray) (hn : n ≤ 4000) (w : World) :
    Calls Tryz.prog 44 #[.slice A n c, .string st, .slice none 0 0, .string lv] w (fun e w' => e = .returned (.pointer (some ⟨w.heap.size, 0, none⟩)) ∧ IsRes w' w.heap.size (.slice A n c) (8 * n) st (.slice none 0 0) lv ∧ Below w.heap.size w w') := by
  have H : ∀ W, Calls Tryz.prog 73 #[.slice A n c, .string st, .slice none 0 0, .string lv, .int .i64 (-1), .int .i64 (-1), .int .i64 0] W (fun e w' => e = .returned (.pointer (some ⟨W.heap.size, 0, none⟩)) ∧ IsRes w' W.heap.size (.slice A n c) (8 * n) st (.slice none 0 0) lv ∧ Below W.heap.size W w') := by
    intro W
    go_enter Tryz.func73, Tryz.ntmps73
    go_wp2_with fail
    go_ret
    refine ⟨rfl, ?_, (Below.refl _ _).alloc (Nat.le_refl _) _⟩
    exact Arr.of_new W 107 #[.slice A n c, .int .i64 (8 * n : Nat), .string st, .slice none 0 0, .string lv, .int .i64 0, .int .i64 0, .nilIface, .int .i64 (-1), .int .i64 (-1), .int .i64 0]
  have HH := hid H
  clear H
  go_enter Tryz.func44, Tryz.ntmps44
  go_wp2_with (go_at_call 73; ((with_reducible refine (HH.out _).mono ?_); rintro e w' ⟨rfl, h1, h2⟩))
  go_ret
  exact ⟨rfl, h1, h2⟩
theorem setNumM (d nb m : Nat) (raw bs : Value) (st lv : ByteArray) (w : World) (h : IsRes w d raw nb st bs lv) (B : Nat) (hB : B ≤ d) :
    Calls Tryz.prog 46 #[.pointer (some ⟨d, 0, none⟩), .int .i64 (m : Nat)] w (fun e w' => e = .returned (.tuple #[]) ∧ IsRes w' d raw m st bs lv ∧ Below B w w') := by
  obtain ⟨v0, c⟩ := h.has 1 (by simp)
  have f := h.frozen 1
  have h2 := hid (show IsRes (w.setCell ⟨d, 1, none⟩ (.int .i64 (m : Nat))) d raw m st bs lv from by have := h.set 1 (.int .i64 (m : Nat)); exact this)
  clear h
  go_enter Tryz.func46, Tryz.ntmps46
  go_wp2_with fail
  go_end0
  exact ⟨rfl, h2.out, (Below.refl _ _).setCell hB _⟩
section
variable {w : World} {d : Nat} {raw : Value} {nb : Nat} {st lv : ByteArray} {bs : Value}
theorem get30 (h : IsRes w d raw nb st bs lv) : Calls Tryz.prog 30 #[.pointer (some ⟨d, 0, none⟩)] w (fun e w' => e = .returned (bs) ∧ w = w') := by
  have c := h.cell? 3
  simp only [List.getElem?_cons_zero, List.getElem?_cons_succ] at c
  clear h
  go_enter Tryz.func30, Tryz.ntmps30
  go_wp2_with fail
  go_ret
  exact ⟨rfl, rfl⟩
theorem get31 (h : IsRes w d raw nb st bs lv) : Calls Tryz.prog 31 #[.pointer (some ⟨d, 0, none⟩)] w (fun e w' => e = .returned (.string st) ∧ w = w') := by
  have c := h.cell? 2
  simp only [List.getElem?_cons_zero, List.getElem?_cons_succ] at c
  clear h
  go_enter Tryz.func31, Tryz.ntmps31
  go_wp2_with fail
  go_ret
  exact ⟨rfl, rfl⟩
theorem get32 (h : IsRes w d raw nb st bs lv) : Calls Tryz.prog 32 #[.pointer (some ⟨d, 0, none⟩)] w (fun e w' => e = .returned (raw) ∧ w = w') := by
  have c := h.cell? 0
  simp only [List.getElem?_cons_zero, List.getElem?_cons_succ] at c
  clear h
  go_enter Tryz.func32, Tryz.ntmps32
  go_wp2_with fail
  go_ret
  exact ⟨rfl, rfl⟩
theorem get33 (h : IsRes w d raw nb st bs lv) : Calls Tryz.prog 33 #[.pointer (some ⟨d, 0, none⟩)] w (fun e w' => e = .returned (.string lv) ∧ w = w') := by
  have c := h.cell? 4
  simp only [List.getElem?_cons_zero, List.getElem?_cons_succ] at c
  clear h
  go_enter Tryz.func33, Tryz.ntmps33
  go_wp2_with fail
  go_ret
  exact ⟨rfl, rfl⟩
theorem get34 (h : IsRes w d raw nb st bs lv) : Calls Tryz.prog 34 #[.pointer (some ⟨d, 0, none⟩)] w (fun e w' => e = .returned (.int .i64 0) ∧ w = w') := by
  have c := h.cell? 5
  simp only [List.getElem?_cons_zero, List.getElem?_cons_succ] at c
  clear h
  go_enter Tryz.func34, Tryz.ntmps34
  go_wp2_with fail
  go_ret
  exact ⟨rfl, rfl⟩
theorem get35 (h : IsRes w d raw nb st bs lv) : Calls Tryz.prog 35 #[.pointer (some ⟨d, 0, none⟩)] w (fun e w' => e = .returned (.int .i64 (-1)) ∧ w = w') := by
  have c := h.cell? 9
  simp only [List.getElem?_cons_zero, List.getElem?_cons_succ] at c
  clear h
  go_enter Tryz.func35, Tryz.ntmps35
  go_wp2_with fail
  go_ret
  exact ⟨rfl, rfl⟩
theorem get36 (h : IsRes w d raw nb st bs lv) : Calls Tryz.prog 36 #[.pointer (some ⟨d, 0, none⟩)] w (fun e w' => e = .returned (.int .i64 (-1)) ∧ w = w') := by
  have c := h.cell? 8
  simp only [List.getElem?_cons_zero, List.getElem?_cons_succ] at c
  clear h
  go_enter Tryz.func36, Tryz.ntmps36
  go_wp2_with fail
  go_ret
  exact ⟨rfl, rfl⟩
theorem get37 (h : IsRes w d raw nb st bs lv) : Calls Tryz.prog 37 #[.pointer (some ⟨d, 0, none⟩)] w (fun e w' => e = .returned (.int .i64 0) ∧ w = w') := by
  have c := h.cell? 10
  simp only [List.getElem?_cons_zero, List.getElem?_cons_succ] at c
  clear h
  go_enter Tryz.func37, Tryz.ntmps37
  go_wp2_with fail
  go_ret
  exact ⟨rfl, rfl⟩
end
theorem info5' : (Tryz.prog.info? 5).map (fun i => (i.zero, i.size, i.bytes)) = some (some (.int .u8 0), 1, 1) := by kernel_rfl
theorem u8s_one' (l : List Nat) : ∀ u ∈ u8s l, u.oneCell' = true := by
  intro u hu
  unfold u8s at hu
  obtain ⟨x, _, rfl⟩ := List.mem_map.1 hu
  rfl
def zer35 : List Value := [.string ⟨#[]⟩, .slice none 0 0, .slice none 0 0, .string ⟨#[]⟩, .int .i64 0, .int .i64 0, .int .i64 0, .int .i64 0]
/-- A result of impl's own, with its text, and no error. -/
def DecOut (st : ByteArray) (w : World) (e : Ending) (w' : World) : Prop :=
  ∃ (n4 n5 n6 n7 : Int) (x3 : ByteArray) (A1 A2 : Option Addr) (m1 c1 m2 c2 : Nat), e = .returned (.tuple #[.agg #[.string st, .slice A1 m1 c1, .slice A2 m2 c2, .string x3, .int .i64 n4, .int .i64 n5, .int .i64 n6, .int .i64 n7], .bool true]) ∧ Below w.heap.size w w'
set_option maxRecDepth 20000 in
set_option maxHeartbeats 8000000 in
theorem decodedM (d : Nat) (A : Option Addr) (n c nb : Nat) (st lv : ByteArray) (W : List Nat) (w : World) (hn : n ≤ 4000)
    (h : IsRes w d (.slice A n c) nb st (.slice none 0 0) lv) (hR : Rd w A n (u8s W)) :
    Calls Tryz.prog 18 #[.pointer (some ⟨d, 0, none⟩), .nilIface] w (DecOut st w) := by
  obtain ⟨i5, gi, gz0, gz1, gz2⟩ := info_of info5'
  have hdl : d < w.heap.size := h.lt
  have HD := hid h
  have HR := hid hR
  have HG := hid (fun V (hb : Below w.heap.size w V) => show IsRes V d (.slice A n c) nb st (.slice none 0 0) lv from Arr.below h hb hdl)
  have HA0 := hid (show Arr (w.alloc (.cells #[.string ⟨#[]⟩, .slice none 0 0, .slice none 0 0, .string ⟨#[]⟩, .int .i64 0, .int .i64 0, .int .i64 0, .int .i64 0] 35)) w.heap.size 35 zer35 from Arr.of_new w 35 #[.string ⟨#[]⟩, .slice none 0 0, .slice none 0 0, .string ⟨#[]⟩, .int .i64 0, .int .i64 0, .int .i64 0, .int .i64 0])
  have HB1 := hid ((Below.refl w.heap.size w).alloc (Nat.le_refl _) (.cells #[.string ⟨#[]⟩, .slice none 0 0, .slice none 0 0, .string ⟨#[]⟩, .int .i64 0, .int .i64 0, .int .i64 0, .int .i64 0] 35))
  have H30 := hid (get30 (HG.out _ HB1.out))
  obtain ⟨r0, hr0⟩ : ∃ r0, r0 = w.heap.size := ⟨_, rfl⟩
  clear h hR
  go_enter Tryz.func18, Tryz.ntmps18
  go_wp2_with (go_at_call 30; ((with_reducible refine H30.out.mono ?_); rintro e w' ⟨rfl, rfl⟩))
  rw [← hr0]
  rw [← hr0] at HA0
  have HR0 := hid hr0
  clear H30 hr0
  have hS1 : Hid (r0 + 1 ≤ (w.alloc (.cells #[.string ⟨#[]⟩, .slice none 0 0, .slice none 0 0, .string ⟨#[]⟩, .int .i64 0, .int .i64 0, .int .i64 0, .int .i64 0] 35)).heap.size) := hid (by have := HR0.out; simp; omega)
  generalize w.alloc (.cells #[.string ⟨#[]⟩, .slice none 0 0, .slice none 0 0, .string ⟨#[]⟩, .int .i64 0, .int .i64 0, .int .i64 0, .int .i64 0] 35) = w1 at *
  go_loopw [6, 15] (fun ov iv wr => ov = .slice none 0 0 ∧ iv = .int .i64 0 ∧ w1 = wr) (fun _ _ _ => 0)
  case atStart => exact ⟨rfl, rfl, rfl⟩
  case round =>
    obtain ⟨rfl, rfl, rfl⟩ := hrel
    have HG1 := hid (HG.out w1 HB1.out)
    have HRR := hid (HR.out.below HB1.out)
    have m1 := hid (show ([] : List Value).length + n ≤ maxLen by simp [maxLen]; omega)
    have m2 := hid (show (([] : List Value).length + n) * 1 ≤ 140737488355328 by simp; omega)
    have hul := u8s_one' W
    have hgb : w.heap.size ≤ r0 := by rw [HR0.out]; exact Nat.le_refl _
    go_wp2_with (first
      | (go_at_call 31; ((with_reducible refine (get31 HG1.out).mono ?_); rintro e w' ⟨rfl, rfl⟩)) | (go_at_call 32; ((with_reducible refine (get32 HG1.out).mono ?_); rintro e w' ⟨rfl, rfl⟩))
      | (at_builtin; refine wpList_app _ rfl _ _ 22 rfl (r0 + 1) 5 i5 _ 1 Tryz.underlying22 gi gz0 gz1 gz2 rfl (.slice none 0 0) [] rfl (Own.nil _ _ _) _ n c (u8s W) rfl HRR.out hul m1.out m2.out hS1.out ?_; intro v5 w5 hO5 hg5 hown5; rw [List.nil_append] at hO5; obtain ⟨A5, c5, rfl, _, _⟩ := hO5.form; have HB5 := hid (HB1.out.grown hg5 (by have := HR0.out; have := hS1.out; omega) (fun k hk => by cases hk)); have HG5 := hid (HG.out w5 HB5.out); have HA5 := hid (HA0.out.grown hg5 (by intro e; cases e)); have d0 := HA5.out.cell? 0; have f0 := HA5.out.frozen 0; have d1 := HA5.out.cell? 1; have f1 := HA5.out.frozen 1; have d2 := HA5.out.cell? 2; have f2 := HA5.out.frozen 2; have d3 := HA5.out.cell? 3; have f3 := HA5.out.frozen 3; have d4 := HA5.out.cell? 4; have f4 := HA5.out.frozen 4; have d5 := HA5.out.cell? 5; have f5 := HA5.out.frozen 5; have d6 := HA5.out.cell? 6; have f6 := HA5.out.frozen 6; have d7 := HA5.out.cell? 7; have f7 := HA5.out.frozen 7; simp only [zer35, List.getElem?_cons_zero, List.getElem?_cons_succ] at d0 d1 d2 d3 d4 d5 d6 d7)
      | (go_at_call 33; ((with_reducible refine (get33 HG5.out).mono ?_); rintro e w' ⟨rfl, rfl⟩)) | (go_at_call 34; ((with_reducible refine (get34 HG5.out).mono ?_); rintro e w' ⟨rfl, rfl⟩)) | (go_at_call 35; ((with_reducible refine (get35 HG5.out).mono ?_); rintro e w' ⟨rfl, rfl⟩)) | (go_at_call 36; ((with_reducible refine (get36 HG5.out).mono ?_); rintro e w' ⟨rfl, rfl⟩)) | (go_at_call 37; ((with_reducible refine (get37 HG5.out).mono ?_); rintro e w' ⟨rfl, rfl⟩)))
    have q0 := (HA5.out.set 0 (Value.string st)).cell? 0
    have q1 := ((HA5.out.set 0 (Value.string st)).set 1 (Value.slice A5 (u8s W).length c5)).cell? 1
    have q2 := (((HA5.out.set 0 (Value.string st)).set 1 (Value.slice A5 (u8s W).length c5)).set 2 (Value.slice none 0 0)).cell? 2
    have q3 := ((((HA5.out.set 0 (Value.string st)).set 1 (Value.slice A5 (u8s W).length c5)).set 2 (Value.slice none 0 0)).set 3 (Value.string lv)).cell? 3
    have q4 := (((((HA5.out.set 0 (Value.string st)).set 1 (Value.slice A5 (u8s W).length c5)).set 2 (Value.slice none 0 0)).set 3 (Value.string lv)).set 4 (Value.int .i64 0)).cell? 4
    have q5 := ((((((HA5.out.set 0 (Value.string st)).set 1 (Value.slice A5 (u8s W).length c5)).set 2 (Value.slice none 0 0)).set 3 (Value.string lv)).set 4 (Value.int .i64 0)).set 5 (Value.int .i64 (-1))).cell? 5
    have q6 := (((((((HA5.out.set 0 (Value.string st)).set 1 (Value.slice A5 (u8s W).length c5)).set 2 (Value.slice none 0 0)).set 3 (Value.string lv)).set 4 (Value.int .i64 0)).set 5 (Value.int .i64 (-1))).set 6 (Value.int .i64 (-1))).cell? 6
    have q7 := ((((((((HA5.out.set 0 (Value.string st)).set 1 (Value.slice A5 (u8s W).length c5)).set 2 (Value.slice none 0 0)).set 3 (Value.string lv)).set 4 (Value.int .i64 0)).set 5 (Value.int .i64 (-1))).set 6 (Value.int .i64 (-1))).set 7 (Value.int .i64 0)).cell? 7
    simp only [zer35, List.set_cons_zero, List.set_cons_succ, List.getElem?_cons_zero, List.getElem?_cons_succ] at q0 q1 q2 q3 q4 q5 q6 q7
    refine bodyPost_ret (v := .tuple #[.agg #[.string st, .slice A5 (u8s W).length c5, .slice none 0 0, .string lv, .int .i64 0, .int .i64 (-1), .int .i64 (-1), .int .i64 0], .bool true]) (by simp [results, Tryz.results18, go_sem, q0, q1, q2, q3, q4, q5, q6, q7]) rfl ?_
    exact ⟨0, -1, -1, 0, lv, A5, none, _, _, _, _, rfl, ((((((((HB5.out.setCell hgb _).setCell hgb _).setCell hgb _).setCell hgb _).setCell hgb _).setCell hgb _).setCell hgb _).setCell hgb _)⟩
end Go.Proofs.YtliephokeafllaaGreatDoor
