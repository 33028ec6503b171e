/- DMSize.MapCols, MapRows, laws.dmIs, FnDMSymbols: the walks. -/
import Derived.Test.YtfmjkflihnfneaaDmH
import Derived.Test.YtfmjkflihnfneaaDmG
import Derived.Deep.RegionHeld3
import Derived.Deep.DrawnRows
namespace Go.Proofs.Ytfmjkflihnfneaa
open Go.RowKit
set_option linter.unusedVariables false
set_option linter.unusedSectionVars false
attribute [local go_sem ↓] Go.wp_at_zero Go.wp_at_succ
section
variable (a b c d e f g : Nat) (ha : a ≤ 2000) (hb : b ≤ 2000) (hc : c ≤ 2000) (hd : d ≤ 2000)
include ha hb hc hd
theorem mapCols (w : World) :
    Calls Try.prog 21 #[.agg #[.int .i64 a, .int .i64 b, .int .i64 c, .int .i64 d, .int .i64 e, .int .i64 f, .int .i64 g]] w fun e' w' => e' = .returned (.int .i64 (b / (d + 2) * d : Nat)) ∧ Below w.heap.size w w' := by
  have hB := hid ((Below.refl w.heap.size w).alloc (Nat.le_refl _) (.cells #[.int .i64 a, .int .i64 b, .int .i64 c, .int .i64 d, .int .i64 e, .int .i64 f, .int .i64 g] 31))
  have hq : (b : Int) / ((d : Int) + 2) = ((b / (d + 2) : Nat) : Int) := by rw [Int.natCast_ediv]; rfl
  have hqb : b / (d + 2) ≤ 2000 := Nat.le_trans (Nat.div_le_self _ _) hb
  have hp : ((b / (d + 2) : Nat) : Int) * (d : Int) = ((b / (d + 2) * d : Nat) : Int) := (Int.natCast_mul _ _).symm
  have hpb : b / (d + 2) * d ≤ 2000 * 2000 := Nat.mul_le_mul hqb hd
  generalize b / (d + 2) * d = P at *
  generalize b / (d + 2) = Q at *
  go_enter Try.func21, Try.ntmps21
  go_wp2_with fail
  go_quiet (fail)
  go_wp2_with fail
  go_ret
  exact ⟨rfl, below_drewN hB.out _⟩
theorem mapRows (w : World) :
    Calls Try.prog 22 #[.agg #[.int .i64 a, .int .i64 b, .int .i64 c, .int .i64 d, .int .i64 e, .int .i64 f, .int .i64 g]] w fun e' w' => e' = .returned (.int .i64 (a / (c + 2) * c : Nat)) ∧ Below w.heap.size w w' := by
  have hB := hid ((Below.refl w.heap.size w).alloc (Nat.le_refl _) (.cells #[.int .i64 a, .int .i64 b, .int .i64 c, .int .i64 d, .int .i64 e, .int .i64 f, .int .i64 g] 31))
  have hq : (a : Int) / ((c : Int) + 2) = ((a / (c + 2) : Nat) : Int) := by rw [Int.natCast_ediv]; rfl
  have hqb : a / (c + 2) ≤ 2000 := Nat.le_trans (Nat.div_le_self _ _) ha
  have hp : ((a / (c + 2) : Nat) : Int) * (c : Int) = ((a / (c + 2) * c : Nat) : Int) := (Int.natCast_mul _ _).symm
  have hpb : a / (c + 2) * c ≤ 2000 * 2000 := Nat.mul_le_mul hqb hc
  generalize a / (c + 2) * c = P at *
  generalize a / (c + 2) = Q at *
  go_enter Try.func22, Try.ntmps22
  go_wp2_with fail
  go_quiet (fail)
  go_wp2_with fail
  go_ret
  exact ⟨rfl, below_drewN hB.out _⟩
end
theorem mkI {W w' : World} {p q : Nat} {a b c d e f g P Q : Nat} (hb : Below W.heap.size W w') (hp : p < W.heap.size) (hq : q < W.heap.size)
    (hA : Arr W p 24 [.int .i64 e, .int .i64 f, .int .i64 d, .int .i64 c, .int .i64 g, .int .i64 b, .int .i64 a, .int .i64 P, .int .i64 Q]) (hC : Arr W q 31 [.int .i64 a, .int .i64 b, .int .i64 c, .int .i64 d, .int .i64 e, .int .i64 f, .int .i64 g]) :
    Below W.heap.size W w' ∧ w'.cell? ⟨p, 0, none⟩ = some (.int .i64 e) ∧ w'.cell? ⟨p, 1, none⟩ = some (.int .i64 f) ∧ w'.cell? ⟨p, 2, none⟩ = some (.int .i64 d) ∧ w'.cell? ⟨p, 3, none⟩ = some (.int .i64 c) ∧ w'.cell? ⟨p, 4, none⟩ = some (.int .i64 g) ∧ w'.cell? ⟨p, 5, none⟩ = some (.int .i64 b) ∧ w'.cell? ⟨p, 6, none⟩ = some (.int .i64 a) ∧ w'.cell? ⟨p, 7, none⟩ = some (.int .i64 P) ∧ w'.cell? ⟨p, 8, none⟩ = some (.int .i64 Q) ∧ w'.cell? ⟨q, 0, none⟩ = some (.int .i64 a) ∧ w'.cell? ⟨q, 1, none⟩ = some (.int .i64 b) ∧ w'.cell? ⟨q, 2, none⟩ = some (.int .i64 c) ∧ w'.cell? ⟨q, 3, none⟩ = some (.int .i64 d) ∧ w'.cell? ⟨q, 4, none⟩ = some (.int .i64 e) ∧ w'.cell? ⟨q, 5, none⟩ = some (.int .i64 f) ∧ w'.cell? ⟨q, 6, none⟩ = some (.int .i64 g) := by
  have h1 := hA.below hb hp
  have h2 := hC.below hb hq
  exact ⟨hb, h1.cell? 0, h1.cell? 1, h1.cell? 2, h1.cell? 3, h1.cell? 4, h1.cell? 5, h1.cell? 6, h1.cell? 7, h1.cell? 8, h2.cell? 0, h2.cell? 1, h2.cell? 2, h2.cell? 3, h2.cell? 4, h2.cell? 5, h2.cell? 6⟩
theorem keepB {W w' w'' : World} {X : Prop} (h : Below W.heap.size W w' ∧ X) (hb : Below w'.heap.size w' w'') : Below W.heap.size W w'' := h.1.trans (hb.mono h.1.size)
def AllSame (w : World) (e : Ending) (w' : World) : Prop := e = .returned (.bool true) ∧ Below w.heap.size w w'
set_option maxRecDepth 20000 in
set_option maxHeartbeats 4000000 in
theorem dmIsT (a b c d e f g : Nat) (ha : a ≤ 2000) (hb : b ≤ 2000) (hc : c ≤ 2000) (hd : d ≤ 2000) (w : World) :
    Calls Try.prog 9 #[.agg #[.int .i64 e, .int .i64 f, .int .i64 d, .int .i64 c, .int .i64 g, .int .i64 b, .int .i64 a, .int .i64 (b / (d + 2) * d : Nat), .int .i64 (a / (c + 2) * c : Nat)],
      .agg #[.int .i64 a, .int .i64 b, .int .i64 c, .int .i64 d, .int .i64 e, .int .i64 f, .int .i64 g]] w (AllSame w) := by
  have mc := fun W => mapCols a b c d e f g ha hb hc hd W
  have mr := fun W => mapRows a b c d e f g ha hb hc hd W
  generalize b / (d + 2) * d = P at *
  generalize a / (c + 2) * c = Q at *
  have hB1 := (Below.refl w.heap.size w).alloc (Nat.le_refl _) (.cells #[.int .i64 e, .int .i64 f, .int .i64 d, .int .i64 c, .int .i64 g, .int .i64 b, .int .i64 a, .int .i64 P, .int .i64 Q] 24)
  have hB := hid (hB1.alloc (by simp) (.cells #[.int .i64 a, .int .i64 b, .int .i64 c, .int .i64 d, .int .i64 e, .int .i64 f, .int .i64 g] 31))
  clear hB1
  have A1 := hid ((Arr.of_new w 24 #[.int .i64 e, .int .i64 f, .int .i64 d, .int .i64 c, .int .i64 g, .int .i64 b, .int .i64 a, .int .i64 P, .int .i64 Q]).alloc (.cells #[.int .i64 a, .int .i64 b, .int .i64 c, .int .i64 d, .int .i64 e, .int .i64 f, .int .i64 g] 31))
  have A2 := hid (Arr.of_new (w.alloc (.cells #[.int .i64 e, .int .i64 f, .int .i64 d, .int .i64 c, .int .i64 g, .int .i64 b, .int .i64 a, .int .i64 P, .int .i64 Q] 24)) 31 #[.int .i64 a, .int .i64 b, .int .i64 c, .int .i64 d, .int .i64 e, .int .i64 f, .int .i64 g])
  have e1 : (w.alloc (.cells #[.int .i64 e, .int .i64 f, .int .i64 d, .int .i64 c, .int .i64 g, .int .i64 b, .int .i64 a, .int .i64 P, .int .i64 Q] 24)).heap.size = w.heap.size + 1 := by simp
  rw [e1] at A2
  go_enter Try.func9, Try.ntmps9
  go_wp2_with fail
  generalize (w.alloc (.cells #[.int .i64 e, .int .i64 f, .int .i64 d, .int .i64 c, .int .i64 g, .int .i64 b, .int .i64 a, .int .i64 P, .int .i64 Q] 24)).alloc (.cells #[.int .i64 a, .int .i64 b, .int .i64 c, .int .i64 d, .int .i64 e, .int .i64 f, .int .i64 g] 31) = W at *
  have MK := fun w' (hb : Below W.heap.size W w') => mkI hb A1.out.lt A2.out.lt A1.out A2.out
  have b0 := Below.refl W.heap.size W
  go_region_held3 (fun w' => Below W.heap.size W w' ∧ w'.cell? ⟨w.heap.size, 0, none⟩ = some (.int .i64 e) ∧ w'.cell? ⟨w.heap.size, 1, none⟩ = some (.int .i64 f) ∧ w'.cell? ⟨w.heap.size, 2, none⟩ = some (.int .i64 d) ∧ w'.cell? ⟨w.heap.size, 3, none⟩ = some (.int .i64 c) ∧ w'.cell? ⟨w.heap.size, 4, none⟩ = some (.int .i64 g) ∧ w'.cell? ⟨w.heap.size, 5, none⟩ = some (.int .i64 b) ∧ w'.cell? ⟨w.heap.size, 6, none⟩ = some (.int .i64 a) ∧ w'.cell? ⟨w.heap.size, 7, none⟩ = some (.int .i64 P) ∧ w'.cell? ⟨w.heap.size, 8, none⟩ = some (.int .i64 Q) ∧ w'.cell? ⟨w.heap.size + 1, 0, none⟩ = some (.int .i64 a) ∧ w'.cell? ⟨w.heap.size + 1, 1, none⟩ = some (.int .i64 b) ∧ w'.cell? ⟨w.heap.size + 1, 2, none⟩ = some (.int .i64 c) ∧ w'.cell? ⟨w.heap.size + 1, 3, none⟩ = some (.int .i64 d) ∧ w'.cell? ⟨w.heap.size + 1, 4, none⟩ = some (.int .i64 e) ∧ w'.cell? ⟨w.heap.size + 1, 5, none⟩ = some (.int .i64 f) ∧ w'.cell? ⟨w.heap.size + 1, 6, none⟩ = some (.int .i64 g))
    (first | exact MK _ b0.drew | exact MK _ (keepB (by assumption) hb5) | exact MK _ (keepB (by assumption) hb6))
    (first
      | (go_at_call 21; ((with_reducible refine (mc _).mono ?_); rintro e5 w5 ⟨rfl, hb5⟩))
      | (go_at_call 22; ((with_reducible refine (mr _).mono ?_); rintro e6 w6 ⟨rfl, hb6⟩)))
  have S6 : Below W.heap.size W w6 ∧ w6.cell? ⟨w.heap.size, 0, none⟩ = some (.int .i64 e) ∧ w6.cell? ⟨w.heap.size, 1, none⟩ = some (.int .i64 f) ∧ w6.cell? ⟨w.heap.size, 2, none⟩ = some (.int .i64 d) ∧ w6.cell? ⟨w.heap.size, 3, none⟩ = some (.int .i64 c) ∧ w6.cell? ⟨w.heap.size, 4, none⟩ = some (.int .i64 g) ∧ w6.cell? ⟨w.heap.size, 5, none⟩ = some (.int .i64 b) ∧ w6.cell? ⟨w.heap.size, 6, none⟩ = some (.int .i64 a) ∧ w6.cell? ⟨w.heap.size, 7, none⟩ = some (.int .i64 P) ∧ w6.cell? ⟨w.heap.size, 8, none⟩ = some (.int .i64 Q) ∧ w6.cell? ⟨w.heap.size + 1, 0, none⟩ = some (.int .i64 a) ∧ w6.cell? ⟨w.heap.size + 1, 1, none⟩ = some (.int .i64 b) ∧ w6.cell? ⟨w.heap.size + 1, 2, none⟩ = some (.int .i64 c) ∧ w6.cell? ⟨w.heap.size + 1, 3, none⟩ = some (.int .i64 d) ∧ w6.cell? ⟨w.heap.size + 1, 4, none⟩ = some (.int .i64 e) ∧ w6.cell? ⟨w.heap.size + 1, 5, none⟩ = some (.int .i64 f) ∧ w6.cell? ⟨w.heap.size + 1, 6, none⟩ = some (.int .i64 g) := by assumption
  have hB6 := S6.1
  have HB6 := hid (hB.out.trans (hB6.mono hB.out.size))
  clear hB6 hb6 S6
  go_wp2_with fail
  go_ret
  exact ⟨rfl, HB6.out⟩
end Go.Proofs.Ytfmjkflihnfneaa
