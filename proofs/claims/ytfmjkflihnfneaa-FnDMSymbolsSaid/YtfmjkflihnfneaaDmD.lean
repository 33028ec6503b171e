/- What is read of a row of the table: the getters of SymbolInfo. -/
import Derived.Test.YtfmjkflihnfneaaDmC
namespace Go.Proofs.Ytfmjkflihnfneaa
open Go.RowKit
set_option linter.unusedVariables false
/-- Block q is a row. -/
structure Row (w : World) (q : Nat) (rect : Bool) (dc ec mw mh dr : Nat) (rb re : Int) (f g : Nat) : Prop where
  arr : Arr w q 49 (rowCells rect dc ec mw mh dr rb re f g)
section
variable {w : World} {q : Nat} {rect : Bool} {dc ec mw mh dr : Nat} {rb re : Int} {f g : Nat}
theorem Row.c0 (h : Row w q rect dc ec mw mh dr rb re f g) : w.cell? ⟨q, 0, none⟩ = some (.bool rect) := h.arr.cell? 0
theorem Row.c1 (h : Row w q rect dc ec mw mh dr rb re f g) : w.cell? ⟨q, 1, none⟩ = some (.int .i64 dc) := h.arr.cell? 1
theorem Row.c2 (h : Row w q rect dc ec mw mh dr rb re f g) : w.cell? ⟨q, 2, none⟩ = some (.int .i64 ec) := h.arr.cell? 2
theorem Row.c3 (h : Row w q rect dc ec mw mh dr rb re f g) : w.cell? ⟨q, 3, none⟩ = some (.int .i64 mw) := h.arr.cell? 3
theorem Row.c4 (h : Row w q rect dc ec mw mh dr rb re f g) : w.cell? ⟨q, 4, none⟩ = some (.int .i64 mh) := h.arr.cell? 4
theorem Row.c5 (h : Row w q rect dc ec mw mh dr rb re f g) : w.cell? ⟨q, 5, none⟩ = some (.int .i64 dr) := h.arr.cell? 5
theorem Row.c6 (h : Row w q rect dc ec mw mh dr rb re f g) : w.cell? ⟨q, 6, none⟩ = some (.int .i64 rb) := h.arr.cell? 6
theorem Row.c8 (h : Row w q rect dc ec mw mh dr rb re f g) : w.cell? ⟨q, 8, none⟩ = some (.func (.func f) #[] #[]) := h.arr.cell? 8
end
def Num (v : Nat) (w : World) (e : Ending) (w' : World) : Prop := e = .returned (.int .i64 v) ∧ w = w'
/-- A number that is read in an open order. -/
def NumD (v : Nat) (w : World) (e : Ending) (w' : World) : Prop := e = .returned (.int .i64 v) ∧ ∃ n, w' = w.drewN n
section
variable (w : World) (q : Nat) (rect : Bool) (dc ec mw mh dr : Nat) (rb re : Int) (f g : Nat) (h : Row w q rect dc ec mw mh dr rb re f g)
include h
theorem getDC : Calls Try.prog 11 #[.pointer (some ⟨q, 0, none⟩)] w (Num dc w) := by
  have c := h.c1
  clear h
  go_enter Try.func11, Try.ntmps11
  go_wp2_with fail
  go_ret
  exact ⟨rfl, rfl⟩
theorem getEC : Calls Try.prog 12 #[.pointer (some ⟨q, 0, none⟩)] w (Num ec w) := by
  have c := h.c2
  clear h
  go_enter Try.func12, Try.ntmps12
  go_wp2_with fail
  go_ret
  exact ⟨rfl, rfl⟩
theorem getMW : Calls Try.prog 13 #[.pointer (some ⟨q, 0, none⟩)] w (Num mw w) := by
  have c := h.c3
  clear h
  go_enter Try.func13, Try.ntmps13
  go_wp2_with fail
  go_ret
  exact ⟨rfl, rfl⟩
theorem getMH : Calls Try.prog 14 #[.pointer (some ⟨q, 0, none⟩)] w (Num mh w) := by
  have c := h.c4
  clear h
  go_enter Try.func14, Try.ntmps14
  go_wp2_with fail
  go_ret
  exact ⟨rfl, rfl⟩
theorem getH (hd : dr = 1 ∨ dr = 2 ∨ dr = 4 ∨ dr = 16 ∨ dr = 36) : Calls Try.prog 27 #[.pointer (some ⟨q, 0, none⟩)] w (Num (hreg dr) w) := by
  have c := h.c5
  clear h
  rcases hd with rfl | rfl | rfl | rfl | rfl
  all_goals
    go_enter Try.func27, Try.ntmps27
    go_wp2_with fail
    go_ret
    exact ⟨rfl, rfl⟩
theorem getV (hd : dr = 1 ∨ dr = 2 ∨ dr = 4 ∨ dr = 16 ∨ dr = 36) : Calls Try.prog 28 #[.pointer (some ⟨q, 0, none⟩)] w (Num (vreg dr) w) := by
  have c := h.c5
  clear h
  rcases hd with rfl | rfl | rfl | rfl | rfl
  all_goals
    go_enter Try.func28, Try.ntmps28
    go_wp2_with fail
    go_ret
    exact ⟨rfl, rfl⟩
theorem getDW (hd : dr = 1 ∨ dr = 2 ∨ dr = 4 ∨ dr = 16 ∨ dr = 36) (hm : mw ≤ 1000) : Calls Try.prog 18 #[.pointer (some ⟨q, 0, none⟩)] w (NumD (hreg dr * mw) w) := by
  have c := h.c3
  have H := hid (fun n => getH (w.drewN n) q rect dc ec mw mh dr rb re f g ⟨h.arr.drewN n⟩ hd)
  have hb : hreg dr ≤ 6 := by rcases hd with rfl | rfl | rfl | rfl | rfl <;> decide
  have e : (hreg dr : Int) * (mw : Int) = ((hreg dr * mw : Nat) : Int) := (Int.natCast_mul _ _).symm
  have hp : hreg dr * mw ≤ 6 * 1000 := Nat.mul_le_mul hb hm
  clear h hd
  generalize hreg dr * mw = P at *
  generalize hreg dr = R at *
  have H2 := H.out
  clear H
  go_enter Try.func18, Try.ntmps18
  go_wp2_with fail
  go_quiet ((go_at_call 27; exact (H2 _).mono fun _ _ hh => ⟨hh.1, _, hh.2.symm⟩))
  go_wp2_with fail
  go_ret
  exact ⟨rfl, _, rfl⟩
theorem getDH (hd : dr = 1 ∨ dr = 2 ∨ dr = 4 ∨ dr = 16 ∨ dr = 36) (hm : mh ≤ 1000) : Calls Try.prog 19 #[.pointer (some ⟨q, 0, none⟩)] w (NumD (vreg dr * mh) w) := by
  have c := h.c4
  have H := hid (fun n => getV (w.drewN n) q rect dc ec mw mh dr rb re f g ⟨h.arr.drewN n⟩ hd)
  have hb : vreg dr ≤ 6 := by rcases hd with rfl | rfl | rfl | rfl | rfl <;> decide
  have e : (vreg dr : Int) * (mh : Int) = ((vreg dr * mh : Nat) : Int) := (Int.natCast_mul _ _).symm
  have hp : vreg dr * mh ≤ 6 * 1000 := Nat.mul_le_mul hb hm
  clear h hd
  generalize vreg dr * mh = P at *
  generalize vreg dr = R at *
  have H2 := H.out
  clear H
  go_enter Try.func19, Try.ntmps19
  go_wp2_with fail
  go_quiet ((go_at_call 28; exact (H2 _).mono fun _ _ hh => ⟨hh.1, _, hh.2.symm⟩))
  go_wp2_with fail
  go_ret
  exact ⟨rfl, _, rfl⟩
theorem getSW (hd : dr = 1 ∨ dr = 2 ∨ dr = 4 ∨ dr = 16 ∨ dr = 36) (hm : mw ≤ 1000) : Calls Try.prog 16 #[.pointer (some ⟨q, 0, none⟩)] w (NumD (hreg dr * mw + 2 * hreg dr) w) := by
  have H1 := getDW w q rect dc ec mw mh dr rb re f g h hd hm
  have H2 := fun n => getH (w.drewN n) q rect dc ec mw mh dr rb re f g ⟨h.arr.drewN n⟩ hd
  have hb : hreg dr ≤ 6 := by rcases hd with rfl | rfl | rfl | rfl | rfl <;> decide
  have hp : hreg dr * mw ≤ 6 * 1000 := Nat.mul_le_mul hb hm
  clear h hd
  generalize hreg dr * mw = P at *
  generalize hreg dr = R at *
  go_enter Try.func16, Try.ntmps16
  go_wp2_with fail
  refine H1.mono ?_
  rintro e w1 ⟨rfl, n, rfl⟩
  clear H1
  go_wp2_with fail
  refine (H2 _).mono ?_
  rintro e w1 ⟨rfl, rfl⟩
  go_wp2_with fail
  go_ret
  exact ⟨by go_num, _, rfl⟩
theorem getSH (hd : dr = 1 ∨ dr = 2 ∨ dr = 4 ∨ dr = 16 ∨ dr = 36) (hm : mh ≤ 1000) : Calls Try.prog 17 #[.pointer (some ⟨q, 0, none⟩)] w (NumD (vreg dr * mh + 2 * vreg dr) w) := by
  have H1 := getDH w q rect dc ec mw mh dr rb re f g h hd hm
  have H2 := fun n => getV (w.drewN n) q rect dc ec mw mh dr rb re f g ⟨h.arr.drewN n⟩ hd
  have hb : vreg dr ≤ 6 := by rcases hd with rfl | rfl | rfl | rfl | rfl <;> decide
  have hp : vreg dr * mh ≤ 6 * 1000 := Nat.mul_le_mul hb hm
  clear h hd
  generalize vreg dr * mh = P at *
  generalize vreg dr = R at *
  go_enter Try.func17, Try.ntmps17
  go_wp2_with fail
  refine H1.mono ?_
  rintro e w1 ⟨rfl, n, rfl⟩
  clear H1
  go_wp2_with fail
  refine (H2 _).mono ?_
  rintro e w1 ⟨rfl, rfl⟩
  go_wp2_with fail
  go_ret
  exact ⟨by go_num, _, rfl⟩
end
theorem blocksDef (w : World) (q : Nat) (rect : Bool) (dc ec mw mh dr rb : Nat) (re : Int) (f g : Nat) (h : Row w q rect dc ec mw mh dr rb re f g) (h1 : 1 ≤ rb) (h2 : dc ≤ 2000) (h3 : rb ≤ 2000) : Calls Try.prog 33 #[.pointer (some ⟨q, 0, none⟩)] w (NumD (dc / rb) w) := by
  have c1 := h.c1
  have c6 := h.c6
  have hq : (dc : Int) / (rb : Int) = ((dc / rb : Nat) : Int) := (Int.natCast_ediv _ _).symm
  have hqb : dc / rb ≤ 2000 := Nat.le_trans (Nat.div_le_self _ _) h2
  clear h
  generalize dc / rb = v at *
  go_enter Try.func33, Try.ntmps33
  go_wp2_with fail
  go_quiet (fail)
  go_wp2_with fail
  go_ret
  exact ⟨rfl, _, rfl⟩
theorem getBD (w : World) (q : Nat) (rect : Bool) (dc ec mw mh dr rb : Nat) (re : Int) (g : Nat) (h : Row w q rect dc ec mw mh dr rb re 33 g) (h1 : 1 ≤ rb) (h2 : dc ≤ 2000) (h3 : rb ≤ 2000) : Calls Try.prog 15 #[.pointer (some ⟨q, 0, none⟩)] w (NumD (dc / rb) w) := by
  have c8 := h.c8
  have H := blocksDef w q rect dc ec mw mh dr rb re 33 g h h1 h2 h3
  clear h
  generalize dc / rb = v at *
  go_enter Try.func15, Try.ntmps15
  go_wp2_with fail
  refine H.mono ?_
  rintro e w1 ⟨rfl, n, rfl⟩
  go_wp2_with fail
  go_ret
  exact ⟨rfl, _, rfl⟩
theorem blocks144 (p : Value) (w : World) : Calls Try.prog 35 #[p] w (Num 10 w) := by
  go_enter Try.func35, Try.ntmps35
  go_wp2_with fail
  go_ret
  exact ⟨rfl, rfl⟩
theorem getB144 (w : World) (q : Nat) (rect : Bool) (dc ec mw mh dr : Nat) (rb re : Int) (g : Nat) (h : Row w q rect dc ec mw mh dr rb re 35 g) : Calls Try.prog 15 #[.pointer (some ⟨q, 0, none⟩)] w (NumD 10 w) := by
  have c8 := h.c8
  have H := blocks144 (.pointer (some ⟨q, 0, none⟩)) w
  clear h
  go_enter Try.func15, Try.ntmps15
  go_wp2_with fail
  refine H.mono ?_
  rintro e w1 ⟨rfl, rfl⟩
  go_wp2_with fail
  go_ret
  exact ⟨rfl, 0, rfl⟩
end Go.Proofs.Ytfmjkflihnfneaa
