/- spec.BIBox, spec.BIFirst, spec.BILast: the walks. -/
import Derived.Test.YtmaghlckgfihcaaBoxL
import Derived.Test.YtmaghlckgfihcaaRowsW
namespace Go.Proofs.Ytmaghlckgfihcaa
open Go.RowKit
set_option linter.unusedVariables false

def numsL (l : List Nat) : List Value := l.map fun (x : Nat) => Value.int .i64 x
/-- A short list of numbers that answers P is handed back. -/
def ResOut (P : List Nat → Prop) (w : World) (e : Ending) (w' : World) : Prop :=
  ∃ L A c, P L ∧ L.length ≤ 4 ∧ e = .returned (.slice A L.length c) ∧ Rd w' A L.length (numsL L) ∧ Below w.heap.size w w'
theorem ResOut.nil {P : List Nat → Prop} {w w' : World} (h : P []) (hb : Below w.heap.size w w') : ResOut P w (.returned (.slice none 0 0)) w' :=
  ⟨[], none, 0, h, by simp, rfl, Rd.nil, hb⟩
theorem ResOut.lit {P : List Nat → Prop} {w w' : World} (L : List Nat) (h : P L) (hl : L.length ≤ 4) (hb : Below w.heap.size w w') (cs : Array Value) (hcs : cs.toList = numsL L) : ResOut P w (.returned (.slice (some ⟨w'.heap.size, 0, none⟩) L.length L.length)) (w'.alloc (.cells cs 3)) := by
  have h1 := Rd.of_arr (Arr.of_new w' 3 cs)
  rw [hcs] at h1
  exact ⟨L, _, _, h, hl, rfl, by simpa [numsL] using h1, hb.alloc hb.size _⟩

set_option maxRecDepth 20000 in
set_option maxHeartbeats 8000000 in
theorem boxSpec (A : Option Addr) (c W H : Nat) (R : Nat → Nat → Bool) (w : World) (hX : RdRows w A H (brow R W)) (hW : W ≤ 70) (hH1 : 1 ≤ H) (hH : H ≤ 70) :
    Calls Try.prog 10 #[.slice A H c] w (ResOut (BoxRes (OnB R W H)) w) := by
  obtain ⟨b0, o0, Rr, Cr, rfl, hbw, hX⟩ := hX.opened (by omega)
  have HX := hid (fun k hk => show w.cell? ⟨b0, o0 + k, none⟩ = some (.slice (Rr k) W (Cr k)) ∧ Rd w (Rr k) W (brow R W k) from by have := hX w (Below.refl _ _) k hk; rw [brow_len] at this; exact ⟨this.1, this.2.1⟩)
  clear hX
  go_enter Try.func10, Try.ntmps10
  go_wp2_with fail
  go_loopw [3, 4, 5, 6, 7] (fun lv tv rv bv yv wr => ∃ (y : Nat) (l t r b : Int), y ≤ H ∧ yv = .int .i64 (y : Nat) ∧ lv = .int .i64 l ∧ tv = .int .i64 t ∧ rv = .int .i64 r ∧ bv = .int .i64 b ∧ Hid (BoxSt (Seen R W H y 0) (-1) (-1) l t r b) ∧ w = wr) (fun _ _ _ _ yv _ => H - (intOf yv).toNat)
  case atStart => exact ⟨0, -1, -1, -1, -1, by omega, rfl, rfl, rfl, rfl, rfl, hid (.inl ⟨rfl, rfl, rfl, rfl, fun x y hh => by have := hh.2; omega⟩), rfl⟩
  case round =>
    obtain ⟨y, l, t, r, b, hy, rfl, rfl, rfl, rfl, rfl, HST, rfl⟩ := hrel
    by_cases hlt : y < H
    · have hlt' : (y : Int) < (H : Int) := by omega
      obtain ⟨c1, hr1⟩ := HX.out y hlt
      have HR := hid hr1
      clear hr1
      go_wp2_with fail
      go_loopw [3, 4, 5, 6, 8] (fun lv tv rv bv xv wr => ∃ (x : Nat) (l t r b : Int), x ≤ W ∧ xv = .int .i64 (x : Nat) ∧ lv = .int .i64 l ∧ tv = .int .i64 t ∧ rv = .int .i64 r ∧ bv = .int .i64 b ∧ Hid (BoxSt (Seen R W H y x) (-1) (-1) l t r b) ∧ w = wr) (fun _ _ _ _ xv _ => W - (intOf xv).toNat)
      case atStart => exact ⟨0, l, t, r, b, by omega, rfl, rfl, rfl, rfl, rfl, HST, rfl⟩
      case round =>
        clear HST
        obtain ⟨x, l, t, r, b, hx, rfl, rfl, rfl, rfl, rfl, HST, rfl⟩ := hrel
        by_cases hx1 : x < W
        · have hx1' : (x : Int) < (W : Int) := by omega
          obtain ⟨b4, o4, hA4, hb4, c2⟩ := rd_brow HR.out x hx1
          generalize hRy : Rr y = Ry at *
          subst hA4
          cases hb : R y x with
          | false =>
            rw [hb] at c2
            have HS2 := hid (HST.out.congr (fun a c => seen_off (W := W) (H := H) hb a c))
            clear hb
            go_wp2_with fail
            go_roundw
            case rel => exact ⟨x + 1, l, t, r, b, by omega, by go_num, rfl, rfl, rfl, rfl, HS2, by first | rfl | trivial⟩
            case measure => simp [intOf]; omega
          | true =>
            rw [hb] at c2
            have HS2 := hid (HST.out.moreNeg (T := Seen R W H y (x + 1)) x y ⟨⟨hx1, hlt, hb⟩, .inr ⟨rfl, by omega⟩⟩ (fun a c => seen_sub (by omega) a c) (fun a c => seen_on a c) (fun a c hh => by have := hh.2; omega))
            clear hb
            rcases HST.out with ⟨rfl, rfl, rfl, rfl, hn⟩ | hv
            · have hm : (if (-1 : Int) < (x : Int) then (x : Int) else -1) = (x : Int) := by split <;> omega
              clear hn
              go_wp2_with fail
              go_roundw
              case rel => exact ⟨x + 1, _, _, _, _, by omega, by go_num, rfl, rfl, rfl, rfl, hid (.inr (HS2.out.eq (by split <;> omega) (by split <;> omega) (by split <;> omega) rfl)), by first | rfl | trivial⟩
              case measure => simp [intOf]; omega
            · have hbd := hv.bd
              clear hv
              have hl0 : ¬ l < 0 := by omega
              have ht0 : ¬ t < 0 := by omega
              by_cases h1 : (x : Int) < l <;> by_cases h2 : r < (x : Int)
              all_goals (
                go_wp2_with fail
                go_roundw
                case rel => exact ⟨x + 1, _, _, _, _, by omega, by go_num, rfl, rfl, rfl, rfl, hid (.inr (HS2.out.eq (by split <;> omega) (by split <;> omega) (by split <;> omega) rfl)), by first | rfl | trivial⟩
                case measure => simp [intOf]; omega)
        · obtain rfl : x = W := by omega
          have hx1' : ¬ (x : Int) < (x : Int) := by omega
          have HS2 := hid (HST.out.congr (fun a c => seen_row a c))
          go_wp2_with fail
          go_roundw
          case rel => exact ⟨y + 1, l, t, r, b, by omega, by go_num, rfl, rfl, rfl, rfl, HS2, by first | rfl | trivial⟩
          case measure => simp [intOf]; omega
    · obtain rfl : y = H := by omega
      have hlt' : ¬ (y : Int) < (y : Int) := by omega
      rcases HST.out.done with ⟨rfl, rfl, rfl, rfl, hP⟩ | ⟨l', t', r', b', rfl, rfl, rfl, rfl, h1, h2, h3, h4, hP⟩
      · have HP := hid hP
        clear hP
        go_wp2_with fail
        go_ret
        exact ResOut.nil HP.out (Below.refl _ _)
      · have HP := hid hP
        have ht0 : ¬ (t' : Int) < 0 := by omega
        clear hP
        go_wp2_with fail
        go_ret
        refine ResOut.lit [l', t', r' - l' + 1, b' - t' + 1] HP.out (by simp) (Below.refl _ _) _ ?_
        simp [numsL]
        omega
end Go.Proofs.Ytmaghlckgfihcaa
