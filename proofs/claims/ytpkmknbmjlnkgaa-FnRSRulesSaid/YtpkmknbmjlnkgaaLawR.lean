/- FnRSRules: the walk of the law. -/
import Derived.Test.YtpkmknbmjlnkgaaLawT
namespace Go.Proofs.Ytpkmknbmjlnkgaa
open Go.RowKit
set_option linter.unusedVariables false

theorem fieldPlus (x y : Nat) (hx : x < 65536) (hy : y < 65536) (w : World) :
    Calls Try.prog 14 #[.int .i64 x, .int .i64 y] w (ValOut (.int .i64 (x ^^^ y : Nat)) w) := by
  have hb : bits .xor .i64 (x : Int) (y : Int) = ((x ^^^ y : Nat) : Int) := i64_xor x y (by omega) (by omega)
  go_enter Try.func14, Try.ntmps14
  go_wp2
  go_ret
  exact ⟨rfl, Below.refl _ _⟩

set_option maxHeartbeats 4000000 in
theorem rules_core (w : World) (n : Nat) (hn : n ≤ 255) (a b c : Int) (ha0 : -9223372036854775808 ≤ a) (ha1 : a ≤ 9223372036854775807) (hb0 : -9223372036854775808 ≤ b) (hb1 : b ≤ 9223372036854775807) (hc0 : -9223372036854775808 ≤ c) (hc1 : c ≤ 9223372036854775807) :
    Calls Try.prog 4 #[.int .u8 n, .int .i64 a, .int .i64 b, .int .i64 c] w fun e w' => e = .returned (.bool true) ∧ Below w.heap.size w w' := by
  have h := fGF (n % 6)
  have hB1 := fB_le (n % 6)
  have hfld := fun W => rsField n hn W
  generalize fP (n % 6) = p at *
  generalize fB (n % 6) = base at *
  generalize fM (n % 6) = m at *
  obtain ⟨N, hN⟩ : ∃ N, N = 2 ^ m := ⟨_, rfl⟩
  rw [← hN] at hfld
  have HN := hid hN
  have hN1 : N ≤ 4096 := by rw [hN]; exact Nat.pow_le_pow_right (n := 2) (by omega) h.small
  have hN0 : 4 ≤ N := by rw [hN]; exact Nat.pow_le_pow_right (n := 2) (by omega) h.pos
  have ea := elemOf_lt N a (by omega)
  have eb := elemOf_lt N b (by omega)
  have ec := elemOf_lt N c (by omega)
  have ra := fun W => rsElement p N base a W (by omega) (by omega) ha0 ha1
  have rb := fun W => rsElement p N base b W (by omega) (by omega) hb0 hb1
  have rc := fun W => rsElement p N base c W (by omega) (by omega) hc0 hc1
  generalize elemOf N a = x at *
  generalize elemOf N b = y at *
  generalize elemOf N c = z at *
  have hx : x < 2 ^ m := by rw [← hN]; exact ea
  have hy : y < 2 ^ m := by rw [← hN]; exact eb
  have hz : z < 2 ^ m := by rw [← hN]; exact ec
  have lt := fun u v (hu : u < 2 ^ m) => gm_lt h hu v
  have T := fun u v (hu : u < 2 ^ m) (hv : v < 2 ^ m) W => fieldTimes p m N base u v W h HN hB1 (by rw [hN]; exact hu) (by rw [hN]; exact hv)
  have c1 := fun W => T x y hx hy W
  have c2 := fun W => T _ z (lt x y hx) hz W
  have c3 := fun W => T y z hy hz W
  have c4 := fun W => T x _ hx (lt y z hy) W
  have c5 := fun W => fieldPlus y z (by omega) (by omega) W
  have c6 := fun W => T x _ hx (Nat.xor_lt_two_pow hy hz) W
  have c7 := fun W => T x z hx hz W
  have l1 := lt x y hx
  have l2 := lt x z hx
  rw [← hN] at l1 l2
  have c8 := fun W => fieldPlus (gm p m x y) (gm p m x z) (by omega) (by omega) W
  have c9 := fun W => T y x hy hx W
  have c10 : ∀ W, Calls Try.prog 12 #[fieldVal p N base, .int .i64 x, .int .i64 1] W (ValOut (.int .i64 (gm p m x 1 : Nat)) W) := fun W => T x 1 hx (one_lt h) W
  rw [gm_assoc h hx hy hz] at c2
  rw [gm_right h hx] at c6
  rw [gm_comm h hy hx] at c9
  rw [gm_one h] at c10
  generalize gm p m x (gm p m y z) = r at *
  generalize gm p m x y ^^^ gm p m x z = s at *
  generalize gm p m x y = xy at *
  generalize gm p m y z = yz at *
  generalize gm p m x z = xz at *
  generalize y ^^^ z = yxz at *
  clear T lt hN h hx hy hz l1 l2
  unfold fieldVal at *
  go_enter Try.func4, Try.ntmps4
  go_wp2_with fail
  refine (hfld _).mono ?_
  rintro e w1 ⟨rfl, hBl⟩
  clear hfld
  go_wp2_with fail
  have A0 := Arr.of_new w1 23 #[.int .i64 p, .int .i64 N, .int .i64 base]
  have B0 : Below w.heap.size w (w1.alloc (.cells #[.int .i64 p, .int .i64 N, .int .i64 base] 23)) := hBl.alloc hBl.size _
  have d0 := A0.cell? 0
  have d1 := A0.cell? 1
  have d2 := A0.cell? 2
  have hlt := A0.lt
  simp only at d0 d1 d2
  generalize w1.heap.size = g at *
  generalize w1.alloc (.cells #[.int .i64 p, .int .i64 N, .int .i64 base] 23) = w2 at *
  clear A0 hBl
  go_region_held3 (fun w' => w'.cell? ⟨g, 0, none⟩ = some (.int .i64 p) ∧ w'.cell? ⟨g, 1, none⟩ = some (.int .i64 N) ∧ w'.cell? ⟨g, 2, none⟩ = some (.int .i64 base) ∧ g < w'.heap.size ∧ Below w.heap.size w w') (first | exact ⟨d0, d1, d2, hlt, B0.drew⟩ | exact keepF (by assumption) (by assumption))
    (first | (go_at_call 11; ((with_reducible refine (ra _).mono ?_); rintro e w9 ⟨rfl, hb9⟩)) | (go_at_call 11; ((with_reducible refine (rb _).mono ?_); rintro e w9 ⟨rfl, hb9⟩)) | (go_at_call 11; ((with_reducible refine (rc _).mono ?_); rintro e w9 ⟨rfl, hb9⟩)))
  clear d0 d1 d2 hlt B0
  go_wp2_with fail
  go_region_held3 (fun w' => w'.cell? ⟨g, 0, none⟩ = some (.int .i64 p) ∧ w'.cell? ⟨g, 1, none⟩ = some (.int .i64 N) ∧ w'.cell? ⟨g, 2, none⟩ = some (.int .i64 base) ∧ g < w'.heap.size ∧ Below w.heap.size w w') (first | exact keepD (by assumption) | exact keepF (by assumption) (by assumption))
    (first | (go_at_call 12; ((with_reducible refine (c1 _).mono ?_); rintro e w9 ⟨rfl, hb9⟩)) | (go_at_call 12; ((with_reducible refine (c2 _).mono ?_); rintro e w9 ⟨rfl, hb9⟩)))
  go_wp2_with fail
  go_region_held3 (fun w' => w'.cell? ⟨g, 0, none⟩ = some (.int .i64 p) ∧ w'.cell? ⟨g, 1, none⟩ = some (.int .i64 N) ∧ w'.cell? ⟨g, 2, none⟩ = some (.int .i64 base) ∧ g < w'.heap.size ∧ Below w.heap.size w w') (first | exact keepD (by assumption) | exact keepF (by assumption) (by assumption))
    (first | (go_at_call 12; ((with_reducible refine (c3 _).mono ?_); rintro e w9 ⟨rfl, hb9⟩)) | (go_at_call 12; ((with_reducible refine (c4 _).mono ?_); rintro e w9 ⟨rfl, hb9⟩)))
  go_wp2_with fail
  go_region_held3 (fun w' => w'.cell? ⟨g, 0, none⟩ = some (.int .i64 p) ∧ w'.cell? ⟨g, 1, none⟩ = some (.int .i64 N) ∧ w'.cell? ⟨g, 2, none⟩ = some (.int .i64 base) ∧ g < w'.heap.size ∧ Below w.heap.size w w') (first | exact keepD (by assumption) | exact keepF (by assumption) (by assumption))
    (first | (go_at_call 14; ((with_reducible refine (c5 _).mono ?_); rintro e w9 ⟨rfl, hb9⟩)) | (go_at_call 12; ((with_reducible refine (c6 _).mono ?_); rintro e w9 ⟨rfl, hb9⟩)))
  go_wp2_with fail
  go_region_held3 (fun w' => w'.cell? ⟨g, 0, none⟩ = some (.int .i64 p) ∧ w'.cell? ⟨g, 1, none⟩ = some (.int .i64 N) ∧ w'.cell? ⟨g, 2, none⟩ = some (.int .i64 base) ∧ g < w'.heap.size ∧ Below w.heap.size w w') (first | exact keepD (by assumption) | exact keepF (by assumption) (by assumption))
    (first | (go_at_call 12; ((with_reducible refine (c1 _).mono ?_); rintro e w9 ⟨rfl, hb9⟩)) | (go_at_call 12; ((with_reducible refine (c7 _).mono ?_); rintro e w9 ⟨rfl, hb9⟩)) | (go_at_call 14; ((with_reducible refine (c8 _).mono ?_); rintro e w9 ⟨rfl, hb9⟩)))
  go_wp2_with fail
  go_region_held3 (fun w' => w'.cell? ⟨g, 0, none⟩ = some (.int .i64 p) ∧ w'.cell? ⟨g, 1, none⟩ = some (.int .i64 N) ∧ w'.cell? ⟨g, 2, none⟩ = some (.int .i64 base) ∧ g < w'.heap.size ∧ Below w.heap.size w w') (first | exact keepD (by assumption) | exact keepF (by assumption) (by assumption))
    (first | (go_at_call 12; ((with_reducible refine (c1 _).mono ?_); rintro e w9 ⟨rfl, hb9⟩)) | (go_at_call 12; ((with_reducible refine (c9 _).mono ?_); rintro e w9 ⟨rfl, hb9⟩)) | (go_at_call 12; ((with_reducible refine (c10 _).mono ?_); rintro e w9 ⟨rfl, hb9⟩)))
  all_goals go_wp2
  all_goals go_ret
  all_goals refine ⟨rfl, ?_⟩
  all_goals exact (by assumption : w9.cell? ⟨g, 0, none⟩ = some (.int .i64 p) ∧ w9.cell? ⟨g, 1, none⟩ = some (.int .i64 N) ∧ w9.cell? ⟨g, 2, none⟩ = some (.int .i64 base) ∧ g < w9.heap.size ∧ Below w.heap.size w w9).2.2.2.2

theorem FnRSRules_walk (w : World) (n : Int) (hn : (Lit.int .u8 n).wf = true) (a : Int) (ha : (Lit.int .i64 a).wf = true) (b : Int) (hb : (Lit.int .i64 b).wf = true) (c : Int) (hc : (Lit.int .i64 c).wf = true) :
    Calls Try.prog 4 #[.int .u8 n, .int .i64 a, .int .i64 b, .int .i64 c] w fun e w' => e = .returned (.bool true) ∧ Below w.heap.size w w' := by
  have h0 := wf_u8 hn
  have h1 := wf_i64 ha
  have h2 := wf_i64 hb
  have h3 := wf_i64 hc
  obtain ⟨k, rfl⟩ := Int.eq_ofNat_of_zero_le h0.1
  exact rules_core w k (by omega) a b c h1.1 h1.2 h2.1 h2.2 h3.1 h3.2
end Go.Proofs.Ytpkmknbmjlnkgaa
