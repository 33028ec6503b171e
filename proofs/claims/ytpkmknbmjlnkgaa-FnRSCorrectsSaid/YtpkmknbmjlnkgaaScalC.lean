/- FnRSScales: a polynomial times an element, whichever. -/
import Derived.Test.YtpkmknbmjlnkgaaScalB
import Derived.Test.YtpkmknbmjlnkgaaLawV
namespace Go.Proofs.Ytpkmknbmjlnkgaa
open Go.RowKit
set_option linter.unusedVariables false

theorem tidy_reps : ∀ n, tidy (List.replicate (n + 1) 0) = [0]
  | 0 => rfl
  | n + 1 => by
    show tidy (0 :: 0 :: List.replicate n 0) = [0]
    simp only [tidy]
    exact tidy_reps n
theorem scale_zero (p m : Nat) (l : List Nat) (h1 : 1 ≤ l.length) : tidy (scaleBy p m 0 l) = [0] := by
  have e : scaleBy p m 0 l = List.replicate ((l.length - 1) + 1) 0 := by
    rw [show l.length - 1 + 1 = l.length from by omega]
    unfold scaleBy
    apply List.ext_getElem
    · simp
    · intro i a b
      simp [gm_zero]
  rw [e, tidy_reps]
theorem scale_one (p m : Nat) (h : IsGF p m) (l : List Nat) : scaleBy p m 1 l = l := by
  unfold scaleBy
  apply List.ext_getElem
  · simp
  · intro i a b
    simp [gm_one h]

theorem multiplyBy (q g p m base B c : Nat) (l : List Nat) (w : World) (h : IsGF p m) (hF : IsField w g p m base) (hP : IsPoly w B q (fieldPtr g) l) (hl1 : 1 ≤ l.length) (hl : l.length ≤ 100000) (hA : AllIn m l) (hT : tidy l = l) (hc : c < 2 ^ m) :
    Calls Try.prog 38 #[fieldPtr q, .int .i64 c] w (PtrOut (fieldPtr g) (tidy (scaleBy p m c l)) w) := by
  rcases (by omega : c = 0 ∨ c = 1 ∨ 2 ≤ c) with rfl | rfl | h2
  · rw [scale_zero p m l hl1]
    exact multiplyBy0 q g p m base B l w h hF hP hl1 (by omega)
  · rw [scale_one p m h, hT]
    exact multiplyBy1 q g B l w hP
  · exact multiplyBy2 q g p m base B c l w h hF hP hl1 hl hA h2 hc

/-- The list of c with d zeros behind it. -/
def monoL (c d : Nat) : List Nat := c :: List.replicate d 0

set_option maxHeartbeats 1000000 in
theorem buildMono (g p m base c d : Nat) (w : World) (hF : IsField w g p m base) (hc : c < 4096) (hd : d ≤ 127) :
    Calls Try.prog 40 #[fieldPtr g, .int .i64 d, .int .i64 c] w fun e w' => ∃ q B, e = .returned (.tuple #[fieldPtr q, .nilIface]) ∧ IsPoly w' B q (fieldPtr g) (tidy (monoL c d)) ∧ Below w.heap.size w w' := by
  rcases Nat.eq_zero_or_pos c with h0 | h0
  · subst h0
    rw [show monoL 0 d = List.replicate (d + 1) 0 from rfl, tidy_reps]
    obtain ⟨ge, gl, qz, qo, a1, a2, a3, a4, a5⟩ := hF
    have d2 : w.cell? ⟨g, 2, none⟩ = some (.pointer (some ⟨qz, 0, none⟩)) := a1.cell? 2
    have H4 := hid a4
    clear a1 a2 a3 a4 a5
    unfold fieldPtr at *
    show Calls Try.prog 40 #[.pointer (some ⟨g, 0, none⟩), .int .i64 d, .int .i64 0] _ _
    go_enter Try.func40, Try.ntmps40
    go_wp2
    go_ret2
    exact ⟨qz, _, rfl, H4.out, Below.refl _ _⟩
  · obtain ⟨i0, hi, hz0, hz1, hz2⟩ := info_parts info3
    have hmk := fun W => run_make (P := Try.prog) W 30 3 i0 (.int .i64 0) Try.underlying30 hi hz0 .i64 .i64 ((d : Int) + 1) ((d : Int) + 1) (by omega) (by omega) (by rw [hz2]; omega) (by omega)
    simp only [hz1] at hmk
    have hx0 : ((c : Int) == 0) = false := by rw [beq_eq_false_iff_ne]; omega
    have hmc : (madeCells #[Value.int .i64 0] (d + 1)).toList = List.replicate (d + 1) (Value.int .i64 0) := by
      apply List.ext_getElem
      · simp [madeCells]
      · intro i h1 h2
        simp [madeCells, Nat.mod_one]
    have hm0 : (madeCells #[Value.int .i64 0] (d + 1))[0]? = some (.int .i64 0) := by
      rw [← Array.getElem?_toList, hmc]; simp
    have hset : ((madeCells #[Value.int .i64 0] (d + 1)).setIfInBounds 0 (.int .i64 c)).toList = ints (monoL c d) := by
      rw [Array.toList_setIfInBounds, hmc]; simp [ints, monoL, List.replicate_succ]
    have A1 := Arr.of_new w 3 ((madeCells #[Value.int .i64 0] (d + 1)).setIfInBounds 0 (.int .i64 c))
    rw [hset] at A1
    have B1 : Below w.heap.size w (w.alloc (.cells ((madeCells #[Value.int .i64 0] (d + 1)).setIfInBounds 0 (.int .i64 c)) 3)) := (Below.refl _ _).alloc (Nat.le_refl _) _
    have hlen : (ints (monoL c d)).length = d + 1 := by simp [ints, monoL]
    have R1 := Rd.of_arr A1
    rw [hlen] at R1
    have np := newPoly (some ⟨g, 0, none⟩) (some ⟨w.heap.size, 0, none⟩) (d + 1) (d + 1) (monoL c d) w.heap.size _ R1 (by omega) (by omega) (Nat.le_refl _) (fun a e => by injection e with e; subst e; exact Nat.le_refl _) B1.size
    have HS := hid hset
    clear hi hz0 hz1 hz2 hF hset hmc A1 R1
    unfold fieldPtr at *
    go_enter Try.func40, Try.ntmps40
    go_wp2_with fail
    refine np.mono ?_
    rintro e w2 ⟨q2, rfl, hq2, hP2, hB2⟩
    have HP2 := hid hP2
    clear hP2 np hmk hm0
    go_wp2
    go_ret2
    exact ⟨q2, _, rfl, HP2.out, B1.trans (hB2.mono B1.size)⟩
end Go.Proofs.Ytpkmknbmjlnkgaa
