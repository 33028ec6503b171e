/- laws.biBits: the first n bits in new memory. -/
import Derived.Test.YtmaghlckgfihcaaDoorArrW
namespace Go.Proofs.YtmaghlckgfihcaaDoor
open Go.RowKit
set_option linter.unusedVariables false

/-- A value is handed back; the world has drawn, no more. -/
def DrewIt (v : Value) (w : World) (e : Ending) (w' : World) : Prop := e = .returned v ∧ ∃ n, w.drewN n = w'

theorem infoB4 : (Tryd.prog.info? 4).map (fun i => (i.zero, i.size, i.bytes)) = some (some (.bool false), 1, 1) := infoBool
/-- Bits in new memory. -/
def BitsNew (l : List Bool) (n : Nat) (w : World) (e : Ending) (w' : World) : Prop :=
  ∃ A c, e = .returned (.slice A n c) ∧ Rd w' A n (l.map Value.bool) ∧ Below w.heap.size w w'
set_option maxRecDepth 20000 in
set_option maxHeartbeats 2000000 in
theorem biBits (A : Option Addr) (len cap n : Nat) (zs : List Bool) (w : World) (hZ : Rd w A len (zs.map Value.bool)) (hlc : len ≤ cap) (hn1 : 1 ≤ n) (hn : n ≤ len) (hn2 : n ≤ 200) (hlen : len ≤ 2147483647) :
    Calls Tryd.prog 4 #[.slice A len cap, .int .i64 n] w (BitsNew (zs.take n) n w) := by
  obtain ⟨i4, hi4, hb0, hb1, hb2⟩ := info_of infoBool
  have hmin : (if (n : Int) < (len : Int) then (n : Int) else (len : Int)) = (n : Int) := by split <;> omega
  have hnc : (n : Int) ≤ (cap : Int) := by omega
  have hT := hZ.take n hn
  rw [← List.map_take] at hT
  have hT2 := hT.2 (by omega)
  obtain ⟨b, o, rfl, _, _⟩ := hT2
  have HT := hid hT
  have hzl : (List.map Value.bool (List.take n zs)).length = n := hT.1
  have HO := hid (show Own (w.alloc (.cells #[] 4)) w.heap.size 4 (.slice (some ⟨w.heap.size, 0, none⟩) 0 0) [] from World.ownsRow_lit w #[] 0 (Nat.le_refl _) (by simp [maxLen]) rfl)
  clear hZ hT
  rcases Nat.lt_or_ge n len with hnl | hnl
  rotate_left
  obtain rfl : n = len := by omega
  all_goals (
  go_enter Tryd.func4, Tryd.ntmps4
  go_wp2_with (at_builtin; (refine wpList_app _ rfl _ _ 22 rfl w.heap.size 4 i4 _ 1 Tryd.underlying22 hi4 hb0 hb1 hb2 rfl (.slice (some ⟨w.heap.size, 0, none⟩) 0 0) [] (by rfl) HO.out (some ⟨b, o, none⟩) n cap ((zs.take n).map Value.bool) (by rfl) (HT.out.alloc _) (by intro u hu; obtain ⟨b, _, rfl⟩ := List.mem_map.1 hu; rfl) (by simp [maxLen]; omega) (by simp; omega) (by simp) ?_))
  intro v1 w2 hO hg _
  have HB := hid (show Below w.heap.size w w2 from ((Below.refl w.heap.size w).alloc (Nat.le_refl _) (.cells #[] 4)).grown hg (by simp) (fun j hj => by simp [Value.ownBlock] at hj; omega))
  obtain ⟨A9, c9, hv9, hR9, _⟩ := hO.form
  rw [← List.map_take] at hv9 hR9
  rw [hzl] at hv9 hR9
  have HR := hid hR9
  subst hv9
  clear hO hg hR9
  go_wp2_with fail
  go_ret
  exact ⟨A9, c9, rfl, HR.out, HB.out⟩)

end Go.Proofs.YtmaghlckgfihcaaDoor
