/- FnRSTimes: the walk of the law. -/
import Derived.Test.YtpkmknbmjlnkgaaTimesW
import Derived.Deep.RegionHeld3
namespace Go.Proofs.Ytpkmknbmjlnkgaa
open Go.RowKit
set_option linter.unusedVariables false

theorem keepF {g : Nat} {c0 c1 c2 : Value} {w0 w w1 : World} (h : w.cell? ⟨g, 0, none⟩ = some c0 ∧ w.cell? ⟨g, 1, none⟩ = some c1 ∧ w.cell? ⟨g, 2, none⟩ = some c2 ∧ g < w.heap.size ∧ Below w0.heap.size w0 w) (hb : Below w.heap.size w w1) :
    w1.cell? ⟨g, 0, none⟩ = some c0 ∧ w1.cell? ⟨g, 1, none⟩ = some c1 ∧ w1.cell? ⟨g, 2, none⟩ = some c2 ∧ g < w1.heap.size ∧ Below w0.heap.size w0 w1 :=
  ⟨(hb.cell (p := ⟨g, 0, none⟩) h.2.2.2.1).trans h.1, (hb.cell (p := ⟨g, 1, none⟩) h.2.2.2.1).trans h.2.1, (hb.cell (p := ⟨g, 2, none⟩) h.2.2.2.1).trans h.2.2.1, Nat.lt_of_lt_of_le h.2.2.2.1 hb.size, h.2.2.2.2.trans (hb.mono h.2.2.2.2.size)⟩

theorem keepD {g : Nat} {c0 c1 c2 : Value} {w0 w : World} (h : w.cell? ⟨g, 0, none⟩ = some c0 ∧ w.cell? ⟨g, 1, none⟩ = some c1 ∧ w.cell? ⟨g, 2, none⟩ = some c2 ∧ g < w.heap.size ∧ Below w0.heap.size w0 w) :
    w.drew.cell? ⟨g, 0, none⟩ = some c0 ∧ w.drew.cell? ⟨g, 1, none⟩ = some c1 ∧ w.drew.cell? ⟨g, 2, none⟩ = some c2 ∧ g < w.drew.heap.size ∧ Below w0.heap.size w0 w.drew :=
  ⟨h.1, h.2.1, h.2.2.1, h.2.2.2.1, h.2.2.2.2.drew⟩

set_option maxHeartbeats 1000000 in
theorem FnRSTimes_core (w : World) (n : Nat) (hn : n ≤ 255) (a b : Int) (ha0 : -9223372036854775808 ≤ a) (ha1 : a ≤ 9223372036854775807) (hb0 : -9223372036854775808 ≤ b) (hb1 : b ≤ 9223372036854775807) :
    Calls Try.prog 3 #[.int .u8 n, .int .i64 a, .int .i64 b] w fun e w' => e = .returned (.bool true) ∧ Below w.heap.size w w' := by
  have h := fGF (n % 6)
  have hB1 := fB_le (n % 6)
  have hfld := fun W => rsField n hn W
  generalize fP (n % 6) = p at *
  generalize fB (n % 6) = base at *
  generalize fM (n % 6) = m at *
  obtain ⟨N, hN⟩ : ∃ N, N = 2 ^ m := ⟨_, rfl⟩
  rw [← hN] at hfld
  have HN := hid hN
  have hN1 : N ≤ 4096 := by rw [hN]; exact Nat.pow_le_pow_right (n := 2) (by omega) h.small
  have hN0 : 4 ≤ N := by rw [hN]; exact Nat.pow_le_pow_right (n := 2) (by omega) h.pos
  clear hN
  have H := hid h
  clear h
  go_enter Try.func3, Try.ntmps3
  go_wp2_with fail
  refine (hfld _).mono ?_
  rintro e w1 ⟨rfl, hBl⟩
  clear hfld
  unfold fieldVal
  go_wp2_with fail
  have A0 := Arr.of_new w1 23 #[.int .i64 p, .int .i64 N, .int .i64 base]
  have B0 : Below w.heap.size w (w1.alloc (.cells #[.int .i64 p, .int .i64 N, .int .i64 base] 23)) := hBl.alloc hBl.size _
  have c0 := A0.cell? 0
  have c1 := A0.cell? 1
  have c2 := A0.cell? 2
  have hlt := A0.lt
  simp only at c0 c1 c2
  generalize w1.heap.size = g at *
  generalize w1.alloc (.cells #[.int .i64 p, .int .i64 N, .int .i64 base] 23) = w2 at *
  clear A0 hBl
  go_region_held3 (fun w' => w'.cell? ⟨g, 0, none⟩ = some (.int .i64 p) ∧ w'.cell? ⟨g, 1, none⟩ = some (.int .i64 N) ∧ w'.cell? ⟨g, 2, none⟩ = some (.int .i64 base) ∧ g < w'.heap.size ∧ Below w.heap.size w w') (first | exact ⟨c0, c1, c2, hlt, B0.drew⟩ | exact keepF (by assumption) (by assumption))
    (first | (go_at_call 11; refine (rsElement p N base _ _ (by omega) (by omega) (by omega) (by omega)).mono ?_; rintro e w3 ⟨rfl, hb3⟩))
  have ea := elemOf_lt N a (by omega)
  have eb := elemOf_lt N b (by omega)
  generalize elemOf N a = x at *
  generalize elemOf N b = y at *
  clear c0 c1 c2 hlt B0
  go_wp2_with fail
  go_region_held3 (fun w' => w'.cell? ⟨g, 0, none⟩ = some (.int .i64 p) ∧ w'.cell? ⟨g, 1, none⟩ = some (.int .i64 N) ∧ w'.cell? ⟨g, 2, none⟩ = some (.int .i64 base) ∧ g < w'.heap.size ∧ Below w.heap.size w w') (first | exact keepD (by assumption) | exact keepF (by assumption) (by assumption))
    (first
      | (go_at_call 12; refine (fieldTimes p m N base x y _ H.out HN hB1 ea eb).mono ?_; rintro e w5 ⟨rfl, hb5⟩)
      | (go_at_call 13; refine (rsTimes p m N base x y _ H.out HN ea eb).mono ?_; rintro e w5 ⟨rfl, hb5⟩))
  go_wp2
  go_ret
  refine ⟨rfl, ?_⟩
  exact (by assumption : w5.cell? ⟨g, 0, none⟩ = some (.int .i64 p) ∧ w5.cell? ⟨g, 1, none⟩ = some (.int .i64 N) ∧ w5.cell? ⟨g, 2, none⟩ = some (.int .i64 base) ∧ g < w5.heap.size ∧ Below w.heap.size w w5).2.2.2.2

theorem FnRSTimes_walk (w : World) (n : Int) (hn : (Lit.int .u8 n).wf = true) (a : Int) (ha : (Lit.int .i64 a).wf = true) (b : Int) (hb : (Lit.int .i64 b).wf = true) :
    Calls Try.prog 3 #[.int .u8 n, .int .i64 a, .int .i64 b] w fun e w' => e = .returned (.bool true) ∧ Below w.heap.size w w' := by
  have h0 := wf_u8 hn
  have h1 := wf_i64 ha
  have h2 := wf_i64 hb
  obtain ⟨k, rfl⟩ := Int.eq_ofNat_of_zero_le h0.1
  exact FnRSTimes_core w k (by omega) a b h1.1 h1.2 h2.1 h2.2
end Go.Proofs.Ytpkmknbmjlnkgaa
