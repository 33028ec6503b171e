/- QR codes: the reader's small functions: the source, the modes, the counts, the result. -/
import Derived.Test.YtpffffhgmhpkiaaSpD
namespace Go.Proofs.Ytpffffhgmhpkiaa
open Go.RowKit
set_option linter.unusedVariables false
set_option linter.unusedSimpArgs false

theorem newSrc (A : Option Addr) (n c : Nat) (w : World) : Calls Try.prog 89 #[.slice A n c] w fun e w' => e = .returned (.pointer (some ⟨w.heap.size, 0, none⟩)) ∧ Src w' w.heap.size A n c 0 ∧ Below w.heap.size w w' ∧ w'.heap.size = w.heap.size + 1 := by
  go_enter Try.func89, Try.ntmps89
  go_wp2_with fail
  go_ret
  exact ⟨rfl, Arr.of_new w 201 #[.slice A n c, .int .i64 0, .int .i64 0], (Below.refl _ _).alloc (Nat.le_refl _) _, by simp⟩
def IsMode (m : Nat) : Prop := m = 1 ∨ m = 2 ∨ m = 4
set_option maxRecDepth 20000 in
theorem modeQ (m : Nat) (h : m = 0 ∨ IsMode m) (w : World) : Calls Try.prog 92 #[.int .i64 m] w fun e w' => e = .returned (.tuple #[.int .i64 m, .nilIface]) ∧ w = w' := by
  rcases h with rfl | rfl | rfl | rfl
  all_goals (
    go_enter Try.func92, Try.ntmps92
    go_wp2_with fail
    go_ret2
    exact ⟨rfl, rfl⟩)
set_option maxRecDepth 20000 in
theorem verNum2 (q v : Nat) (hv : v ≤ 40) (w : World) (h0 : w.cell? ⟨q, 0, none⟩ = some (.int .i64 v)) : Calls Try.prog 41 #[.pointer (some ⟨q, 0, none⟩)] w fun e w' => e = .returned (.int .i64 (v : Int)) ∧ w = w' := by
  go_enter Try.func41, Try.ntmps41
  go_wp2_with fail
  go_ret
  exact ⟨rfl, rfl⟩
def CntTab (m : Nat) (w : World) (e : Ending) (w' : World) : Prop := ∃ g, e = .returned (.slice (some ⟨g, 0, none⟩) 3 3) ∧ Arr w' g 3 (ints [cntB m 1, cntB m 10, cntB m 27]) ∧ Below w.heap.size w w'
set_option maxRecDepth 20000 in
theorem cntTab (m : Nat) (h : IsMode m) (w : World) : Calls Try.prog 120 #[.int .i64 m] w (CntTab m w) := by
  rcases h with rfl | rfl | rfl
  · go_enter Try.func120, Try.ntmps120
    go_wp2_with fail
    go_ret
    exact ⟨_, rfl, Arr.of_new w 3 #[.int .i64 10, .int .i64 12, .int .i64 14], (Below.refl _ _).alloc (Nat.le_refl _) _⟩
  · go_enter Try.func120, Try.ntmps120
    go_wp2_with fail
    go_ret
    exact ⟨_, rfl, Arr.of_new w 3 #[.int .i64 9, .int .i64 11, .int .i64 13], (Below.refl _ _).alloc (Nat.le_refl _) _⟩
  · go_enter Try.func120, Try.ntmps120
    go_wp2_with fail
    go_ret
    exact ⟨_, rfl, Arr.of_new w 3 #[.int .i64 8, .int .i64 16, .int .i64 16], (Below.refl _ _).alloc (Nat.le_refl _) _⟩
theorem cnt_row (m v : Nat) : cntB m v = if v ≤ 9 then cntB m 1 else if v ≤ 26 then cntB m 10 else cntB m 27 := by
  unfold cntB
  by_cases h1 : v ≤ 9
  · simp [h1]
  · by_cases h2 : v ≤ 26
    · simp [h1, h2]
    · simp [h1, h2]
theorem cnt_le (m v : Nat) : 4 ≤ cntB m v ∧ cntB m v ≤ 16 := by
  unfold cntB
  repeat' split
  all_goals omega
set_option maxRecDepth 20000 in
theorem cntQ (m v q : Nat) (h : IsMode m) (hv : v ≤ 40) (w : World) (h0 : w.cell? ⟨q, 0, none⟩ = some (.int .i64 v)) : Calls Try.prog 95 #[.int .i64 m, .pointer (some ⟨q, 0, none⟩)] w fun e w' => e = .returned (.int .i64 (cntB m v : Nat)) ∧ Below w.heap.size w w' := by
  have vn := verNum2 q v hv w h0
  have CT := hid (fun W => cntTab m h W)
  have hr := cnt_row m v
  unfold CntTab at CT
  generalize cntB m v = cv at *
  generalize cntB m 1 = c1 at *
  generalize cntB m 10 = c2 at *
  generalize cntB m 27 = c3 at *
  have HR := hid hr
  clear hr h h0
  by_cases h9 : v ≤ 9
  · have h9' : (v : Int) ≤ 9 := by omega
    have HV := hid (show cv = c1 by have := HR.out; rwa [if_pos h9] at this)
    go_enter Try.func95, Try.ntmps95
    go_wp2_with fail
    refine vn.mono ?_
    rintro e w1 ⟨rfl, rfl⟩
    go_wp2_with fail
    refine (CT.out _).mono ?_
    rintro e w1 ⟨g, rfl, hA, hb⟩
    have q0 := hA.cell? 0
    simp only [ints, List.map_cons, List.getElem?_cons_zero, List.getElem?_cons_succ] at q0
    have HB := hid hb
    clear hA hb
    go_wp2_with fail
    go_ret
    exact ⟨by rw [HV.out]; rfl, HB.out⟩
  · have h9' : ¬ (v : Int) ≤ 9 := by omega
    by_cases h26 : v ≤ 26
    · have h26' : (v : Int) ≤ 26 := by omega
      have HV := hid (show cv = c2 by have := HR.out; rwa [if_neg h9, if_pos h26] at this)
      go_enter Try.func95, Try.ntmps95
      go_wp2_with fail
      refine vn.mono ?_
      rintro e w1 ⟨rfl, rfl⟩
      go_wp2_with fail
      refine (CT.out _).mono ?_
      rintro e w1 ⟨g, rfl, hA, hb⟩
      have q0 := hA.cell? 1
      simp only [ints, List.map_cons, List.getElem?_cons_zero, List.getElem?_cons_succ] at q0
      have HB := hid hb
      clear hA hb
      go_wp2_with fail
      go_ret
      exact ⟨by rw [HV.out]; rfl, HB.out⟩
    · have h26' : ¬ (v : Int) ≤ 26 := by omega
      have HV := hid (show cv = c3 by have := HR.out; rwa [if_neg h9, if_neg h26] at this)
      go_enter Try.func95, Try.ntmps95
      go_wp2_with fail
      refine vn.mono ?_
      rintro e w1 ⟨rfl, rfl⟩
      go_wp2_with fail
      refine (CT.out _).mono ?_
      rintro e w1 ⟨g, rfl, hA, hb⟩
      have q0 := hA.cell? 2
      simp only [ints, List.map_cons, List.getElem?_cons_zero, List.getElem?_cons_succ] at q0
      have HB := hid hb
      clear hA hb
      go_wp2_with fail
      go_ret
      exact ⟨by rw [HV.out]; rfl, HB.out⟩
/-- The name of a level, by its number. -/
def lvStr (l : Nat) : ByteArray := if l = 0 then ⟨#[77]⟩ else if l = 1 then ⟨#[76]⟩ else if l = 2 then ⟨#[72]⟩ else ⟨#[81]⟩
set_option maxRecDepth 20000 in
theorem lvName (l : Nat) (h : l < 4) (w : World) : Calls Try.prog 102 #[.int .i64 l] w fun e w' => e = .returned (.string (lvStr l)) ∧ w = w' := by
  obtain rfl | rfl | rfl | rfl : l = 0 ∨ l = 1 ∨ l = 2 ∨ l = 3 := by omega
  all_goals (
    go_enter Try.func102, Try.ntmps102
    go_wp2_with fail
    go_ret
    exact ⟨rfl, rfl⟩)
/-- A result of the reader in block d. -/
def IsRes (w : World) (d : Nat) (raw : Value) (n : Nat) (st : ByteArray) (bs : Value) (ec : ByteArray) : Prop :=
  Arr w d 199 [raw, .int .i64 (8 * n : Nat), .string st, bs, .string ec, .int .i64 0, .int .i64 0, .nilIface, .int .i64 (-1), .int .i64 (-1), .int .i64 1]
set_option maxRecDepth 20000 in
theorem newRes (A : Option Addr) (n c : Nat) (st ec : ByteArray) (Ab : Option Addr) (nb cb : Nat) (hn : n ≤ 4000) (w : World) :
    Calls Try.prog 101 #[.slice A n c, .string st, .slice Ab nb cb, .string ec, .int .i64 (-1), .int .i64 (-1), .int .i64 1] w (fun e w' => e = .returned (.pointer (some ⟨w.heap.size, 0, none⟩)) ∧ IsRes w' w.heap.size (.slice A n c) n st (.slice Ab nb cb) ec ∧ Below w.heap.size w w') := by
  go_enter Try.func101, Try.ntmps101
  go_wp2_with fail
  go_ret
  refine ⟨rfl, ?_, (Below.refl _ _).alloc (Nat.le_refl _) _⟩
  exact Arr.of_new w 199 #[.slice A n c, .int .i64 (8 * n : Nat), .string st, .slice Ab nb cb, .string ec, .int .i64 0, .int .i64 0, .nilIface, .int .i64 (-1), .int .i64 (-1), .int .i64 1]
section
variable {w : World} {d : Nat} {raw : Value} {n : Nat} {st : ByteArray} {bs : Value} {ec : ByteArray}
theorem get81 (h : IsRes w d raw n st bs ec) : Calls Try.prog 81 #[.pointer (some ⟨d, 0, none⟩)] w (fun e w' => e = .returned (bs) ∧ w = w') := by
  have c := h.cell? 3
  simp only [List.getElem?_cons_zero, List.getElem?_cons_succ] at c
  clear h
  go_enter Try.func81, Try.ntmps81
  go_wp2_with fail
  go_ret
  exact ⟨rfl, rfl⟩
theorem get82 (h : IsRes w d raw n st bs ec) : Calls Try.prog 82 #[.pointer (some ⟨d, 0, none⟩)] w (fun e w' => e = .returned (.string st) ∧ w = w') := by
  have c := h.cell? 2
  simp only [List.getElem?_cons_zero, List.getElem?_cons_succ] at c
  clear h
  go_enter Try.func82, Try.ntmps82
  go_wp2_with fail
  go_ret
  exact ⟨rfl, rfl⟩
theorem get83 (h : IsRes w d raw n st bs ec) : Calls Try.prog 83 #[.pointer (some ⟨d, 0, none⟩)] w (fun e w' => e = .returned (raw) ∧ w = w') := by
  have c := h.cell? 0
  simp only [List.getElem?_cons_zero, List.getElem?_cons_succ] at c
  clear h
  go_enter Try.func83, Try.ntmps83
  go_wp2_with fail
  go_ret
  exact ⟨rfl, rfl⟩
theorem get84 (h : IsRes w d raw n st bs ec) : Calls Try.prog 84 #[.pointer (some ⟨d, 0, none⟩)] w (fun e w' => e = .returned (.string ec) ∧ w = w') := by
  have c := h.cell? 4
  simp only [List.getElem?_cons_zero, List.getElem?_cons_succ] at c
  clear h
  go_enter Try.func84, Try.ntmps84
  go_wp2_with fail
  go_ret
  exact ⟨rfl, rfl⟩
theorem get85 (h : IsRes w d raw n st bs ec) : Calls Try.prog 85 #[.pointer (some ⟨d, 0, none⟩)] w (fun e w' => e = .returned (.int .i64 0) ∧ w = w') := by
  have c := h.cell? 5
  simp only [List.getElem?_cons_zero, List.getElem?_cons_succ] at c
  clear h
  go_enter Try.func85, Try.ntmps85
  go_wp2_with fail
  go_ret
  exact ⟨rfl, rfl⟩
theorem get86 (h : IsRes w d raw n st bs ec) : Calls Try.prog 86 #[.pointer (some ⟨d, 0, none⟩)] w (fun e w' => e = .returned (.int .i64 (-1)) ∧ w = w') := by
  have c := h.cell? 9
  simp only [List.getElem?_cons_zero, List.getElem?_cons_succ] at c
  clear h
  go_enter Try.func86, Try.ntmps86
  go_wp2_with fail
  go_ret
  exact ⟨rfl, rfl⟩
theorem get87 (h : IsRes w d raw n st bs ec) : Calls Try.prog 87 #[.pointer (some ⟨d, 0, none⟩)] w (fun e w' => e = .returned (.int .i64 (-1)) ∧ w = w') := by
  have c := h.cell? 8
  simp only [List.getElem?_cons_zero, List.getElem?_cons_succ] at c
  clear h
  go_enter Try.func87, Try.ntmps87
  go_wp2_with fail
  go_ret
  exact ⟨rfl, rfl⟩
theorem get88 (h : IsRes w d raw n st bs ec) : Calls Try.prog 88 #[.pointer (some ⟨d, 0, none⟩)] w (fun e w' => e = .returned (.int .i64 1) ∧ w = w') := by
  have c := h.cell? 10
  simp only [List.getElem?_cons_zero, List.getElem?_cons_succ] at c
  clear h
  go_enter Try.func88, Try.ntmps88
  go_wp2_with fail
  go_ret
  exact ⟨rfl, rfl⟩
end
theorem own_str {w : World} {B : Nat} {v : Value} {o : List Nat} (h : Own w B 5 v (u8s o)) : ∃ A c, v = .slice A o.length c ∧ (convert 22 9 (.slice A o.length c)).run Try.prog w = .ok (.string (strOf o)) w := by
  by_cases hn : v.ownBlock = none
  · rcases h.2 with ⟨rfl, hx⟩ | ⟨g, cap, cur, rfl, _⟩
    · rw [u8s_len] at hx
      obtain rfl : o = [] := List.eq_nil_of_length_eq_zero hx
      exact ⟨none, 0, rfl, by kernel_rfl⟩
    · cases hn
  · obtain ⟨g, c, h1, h2⟩ := own_text h hn
    exact ⟨_, c, h1, h2⟩
theorem own_str' {w : World} {B : Nat} {A : Option Addr} {n c : Nat} {o : List Nat} (h : Own w B 5 (.slice A n c) (u8s o)) : (convert 22 9 (.slice A n c)).run Try.prog w = .ok (.string (strOf o)) w := by
  obtain ⟨A', c', e, hr⟩ := own_str h
  rw [e]; exact hr
end Go.Proofs.Ytpffffhgmhpkiaa
