/- FnQRLevels: the walk of the law. -/
import Derived.Test.YtjgckbccbambmaaShapeX
namespace Go.Proofs.Ytjgckbccbambmaa
open Go.RowKit
set_option linter.unusedVariables false

/-- The data words of blocks. -/
def sumB : List (Nat × Nat) → Nat
  | [] => 0
  | p :: l => p.1 * p.2 + sumB l
theorem sumB_app : ∀ (a b : List (Nat × Nat)), sumB (a ++ b) = sumB a + sumB b
  | [], b => by simp [sumB]
  | p :: a, b => by simp [sumB, sumB_app a b]; omega
theorem sumB_succ (l : List (Nat × Nat)) (i : Nat) (h : i < l.length) : sumB (l.take (i + 1)) = sumB (l.take i) + (l.getD i (0, 0)).1 * (l.getD i (0, 0)).2 := by
  rw [List.take_add_one, sumB_app, List.getElem?_eq_getElem h]
  simp [sumB, List.getD, List.getElem?_eq_getElem h]
/-- What is last told before round i. -/
def lastOf (v i : Nat) : Nat := if i = 0 then 0 else sumB ((vrow v).lv (4 - i)).2
def factsAt (v : Nat) : Bool := decide ((vrow v).1.length ≤ 7) && (List.range 4).all fun i => decide (((vrow v).lv (3 - i)).2.length ≤ 2) && decide (lastOf v i < lastOf v (i + 1)) && decide (lastOf v i ≤ 4000 ∧ lastOf v (i + 1) ≤ 4000) && ((vrow v).lv (3 - i)).2.all fun p => decide (p.1 ≤ 100) && decide (p.2 ≤ 200)
theorem facts_all : ((List.range 41).all fun v => v == 0 || factsAt v) = true := by decide +kernel
theorem facts (v : Nat) (h1 : 1 ≤ v) (h2 : v ≤ 40) : (vrow v).1.length ≤ 7 ∧ ∀ i, i < 4 → ((vrow v).lv (3 - i)).2.length ≤ 2 ∧ lastOf v i < lastOf v (i + 1) ∧ (lastOf v i ≤ 4000 ∧ lastOf v (i + 1) ≤ 4000) ∧ ∀ p ∈ ((vrow v).lv (3 - i)).2, p.1 ≤ 100 ∧ p.2 ≤ 200 := by
  have h := List.all_eq_true.1 facts_all v (List.mem_range.2 (by omega))
  have hv : factsAt v = true := by
    rcases Bool.or_eq_true_iff.1 h with h | h
    · have : v = 0 := by simpa using h
      omega
    · exact h
  unfold factsAt at hv
  rw [Bool.and_eq_true] at hv
  refine ⟨by simpa using hv.1, fun i hi => ?_⟩
  have := List.all_eq_true.1 hv.2 i (List.mem_range.2 hi)
  simp only [Bool.and_eq_true, decide_eq_true_eq, List.all_eq_true] at this
  exact ⟨this.1.1.1, this.1.1.2, this.1.2, this.2⟩

set_option maxRecDepth 20000 in
theorem qrVer (z : Nat) (h1 : z ≤ 255) (w : World) : Calls Try.prog 9 #[.int .u8 z] w fun e w' => e = .returned (.int .i64 ((z % 40 + 1 : Nat) : Int)) ∧ w = w' := by
  go_enter Try.func9, Try.ntmps9
  go_wp2_with fail
  go_ret
  exact ⟨congrArg (fun x => Ending.returned (.int .i64 x)) (show _ = ((z % 40 + 1 : Nat) : Int) by omega), rfl⟩

/-- What is told of blocks L. -/
def ShapeOf (L : List (Nat × Nat)) (w : World) (e : Ending) (w' : World) : Prop :=
  ∃ (z1 z2 z4 : Int) (sc : Value) (A : Option Addr) (c : Nat), e = .returned (.tuple #[.int .i64 z1, .int .i64 z2, sc, .int .i64 z4, .slice A L.length c, .bool true]) ∧
    Rd2 w' A L.length (flatB L) ∧ Below w.heap.size w w'

set_option maxRecDepth 20000 in
set_option maxHeartbeats 8000000 in
theorem FnQRLevels_walk (w : World) (z : Int) (hz : (Lit.int .u8 z).wf = true) :
    Calls Try.prog 3 #[.int .u8 z] w fun e w' => e = .returned (.bool true) ∧ Below w.heap.size w w' := by
  obtain ⟨hz0, hz1⟩ := wf_u8 hz
  obtain ⟨zn, rfl⟩ : ∃ n : Nat, z = n := ⟨z.toNat, by omega⟩
  have hzn : zn ≤ 255 := by omega
  clear hz hz0 hz1
  have qv := fun W => qrVer zn hzn W
  obtain ⟨v, hv⟩ : ∃ v, v = zn % 40 + 1 := ⟨_, rfl⟩
  have hv1 : 1 ≤ v := by omega
  have hv2 : v ≤ 40 := by omega
  rw [← hv] at qv
  obtain ⟨hc7, hfacts⟩ := facts v hv1 hv2
  have HF := hid hfacts
  clear hv hfacts
  have sh : ∀ (i : Nat) (L : List (Nat × Nat)), i < 4 → L = ((vrow v).lv (3 - i)).2 → ∀ l, lvAt l = 3 - i → l < 4 → ∀ W, Calls Try.prog 8 #[.int .i64 v, .int .i64 l] W (ShapeOf L W) := fun i L hi hL l he hl W => by
    have := shape v l hv1 hv2 hl W hc7 (by rw [he]; exact (HF.out i hi).1)
    unfold ShapeOut at this
    rw [he, ← hL] at this
    exact this
  have SH := hid sh
  clear sh
  have x0 : ∀ w, (Instr.index 22 (.agg #[.int .i64 2, .int .i64 3, .int .i64 0, .int .i64 1]) (.int .i64 0)).run Try.prog w = .ok (.int .i64 2) w := fun _ => by kernel_rfl
  have x1 : ∀ w, (Instr.index 22 (.agg #[.int .i64 2, .int .i64 3, .int .i64 0, .int .i64 1]) (.int .i64 1)).run Try.prog w = .ok (.int .i64 3) w := fun _ => by kernel_rfl
  have x2 : ∀ w, (Instr.index 22 (.agg #[.int .i64 2, .int .i64 3, .int .i64 0, .int .i64 1]) (.int .i64 2)).run Try.prog w = .ok (.int .i64 0) w := fun _ => by kernel_rfl
  have x3 : ∀ w, (Instr.index 22 (.agg #[.int .i64 2, .int .i64 3, .int .i64 0, .int .i64 1]) (.int .i64 3)).run Try.prog w = .ok (.int .i64 1) w := fun _ => by kernel_rfl
  go_enter Try.func3, Try.ntmps3
  go_wp2_with fail
  go_loopw [3, 16] (fun dv iv wr => ∃ i : Nat, i ≤ 4 ∧ dv = .int .i64 (lastOf v i) ∧ iv = .int .i64 (i : Nat) ∧ Below w.heap.size w wr) (fun _ iv _ => 4 - (intOf iv).toNat)
  case atStart => exact ⟨0, by omega, rfl, rfl, Below.refl _ _⟩
  case round =>
    obtain ⟨i, hi, rfl, rfl, hb⟩ := hrel
    have HB := hid hb
    clear hb
    by_cases hlt : i < 4
    · have hf := HF.out i hlt
      obtain ⟨hk2, hlast, ⟨hl4, hl5⟩, hp⟩ := hf
      have hsum : lastOf v (i + 1) = sumB ((vrow v).lv (3 - i)).2 := by unfold lastOf; rw [if_neg (by omega), show 4 - (i + 1) = 3 - i from by omega]
      obtain ⟨L, hL⟩ : ∃ L, L = ((vrow v).lv (3 - i)).2 := ⟨_, rfl⟩
      have S := SH.out i L hlt hL
      rw [hsum, ← hL] at hlast hl5
      rw [← hL] at hk2 hp hsum
      obtain ⟨j1, hj1⟩ : ∃ j1, j1 = i + 1 := ⟨_, rfl⟩
      rw [← hj1] at hsum
      have HJ := hid hj1
      clear hj1
      have HSUM := hid hsum
      have HP := hid hp
      clear hsum hL hp
      generalize hla : lastOf v i = la at *
      clear hla
      obtain ⟨K, hK⟩ : ∃ K, K = L.length := ⟨_, rfl⟩
      rw [← hK] at hk2
      have hlast' : ¬ (sumB L : Int) ≤ (la : Int) := by omega
      rcases (show i = 0 ∨ i = 1 ∨ i = 2 ∨ i = 3 by omega) with rfl | rfl | rfl | rfl
      have S' : ∀ W, Calls Try.prog 8 #[.int .i64 v, .int .i64 2] W (ShapeOf L W) := S 2 rfl (by omega)
      rotate_left
      have S' : ∀ W, Calls Try.prog 8 #[.int .i64 v, .int .i64 3] W (ShapeOf L W) := S 3 rfl (by omega)
      rotate_left
      have S' : ∀ W, Calls Try.prog 8 #[.int .i64 v, .int .i64 0] W (ShapeOf L W) := S 0 rfl (by omega)
      rotate_left
      have S' : ∀ W, Calls Try.prog 8 #[.int .i64 v, .int .i64 1] W (ShapeOf L W) := S 1 rfl (by omega)
      rotate_left
      all_goals (
        have HS := hid S'
        have HK := hid hK
        clear S S' hK
        go_wp2_with fail
        refine (qv _).mono ?_
        rintro e w1 ⟨rfl, rfl⟩
        go_wp2_with fail
        refine (HS.out _).mono ?_
        rintro e w1 ⟨y1, y2, y4, sc, A, c, rfl, hX, hb1⟩
        rw [← HK.out] at hX ⊢
        have HX := hid hX
        have HB1 := hid (HB.out.trans (hb1.mono HB.out.size))
        clear hX hb1 HB HS
        go_wp2_with fail
        go_loopw [12, 32] (fun dv iv wr => ∃ k : Nat, k ≤ K ∧ dv = .int .i64 (sumB (L.take k) : Nat) ∧ iv = .int .i64 (k : Nat) ∧ Below w1.heap.size w1 wr) (fun _ iv _ => K - (intOf iv).toNat)
        case atStart => exact ⟨0, by omega, rfl, rfl, Below.refl _ _⟩
        case round =>
          obtain ⟨k, hk, rfl, rfl, hb⟩ := hrel
          have HB := hid hb
          clear hb
          by_cases hlt2 : k < K
          · have hlt2' : (k : Int) < (K : Int) := by omega
            obtain ⟨g, rfl, hgl, hcs⟩ := HX.out.2 (by omega)
            have hkL : k < L.length := by rw [← HK.out]; exact hlt2
            have hlen : (flatB L).length = 2 * L.length := flatB_len L
            have c0 : wr.cell? ⟨g, k * 2, none⟩ = some (.int .i64 ((L.getD k (0, 0)).1 : Nat)) :=
              (HB.out.cell (p := ⟨g, k * 2, none⟩) hgl).trans ((hcs (k * 2) (by omega)).trans ((List.getElem?_eq_getElem (by omega)).symm.trans (flatB_at L k hkL).1))
            have c1 : wr.cell? ⟨g, k * 2 + 1, none⟩ = some (.int .i64 ((L.getD k (0, 0)).2 : Nat)) :=
              (HB.out.cell (p := ⟨g, k * 2 + 1, none⟩) hgl).trans ((hcs (k * 2 + 1) (by omega)).trans ((List.getElem?_eq_getElem (by omega)).symm.trans (flatB_at L k hkL).2))
            have hmem : L.getD k (0, 0) ∈ L := by rw [List.getD, List.getElem?_eq_getElem hkL]; exact List.getElem_mem hkL
            obtain ⟨hp1, hp2⟩ := HP.out _ hmem
            have HSS := hid (sumB_succ L k hkL)
            have hle : sumB (L.take (k + 1)) ≤ sumB L := by
              have := sumB_app (L.take (k + 1)) (L.drop (k + 1))
              rw [List.take_append_drop] at this
              omega
            have hsL : sumB L ≤ 40000 := by omega
            have hs1 := sumB_succ L k hkL
            generalize (L.getD k (0, 0)).1 = n1 at *
            generalize (L.getD k (0, 0)).2 = n2 at *
            generalize hsk : sumB (L.take k) = sk at *
            have m0 : (0 : Int) ≤ (n1 : Int) * (n2 : Int) := by rw [← Int.natCast_mul]; omega
            have m1 : (n1 : Int) * (n2 : Int) ≤ 20000 := by rw [← Int.natCast_mul]; have : n1 * n2 ≤ 100 * 200 := Nat.mul_le_mul hp1 hp2; omega
            have hsk2 : sk ≤ 40000 := by omega
            clear hcs hmem hs1 hle hsL hsk
            have HB2 := hid (HB.out.alloc HB.out.size (.cells #[.int .i64 n1, .int .i64 n2] 28))
            go_wp2_with fail
            go_roundw
            case rel => exact ⟨k + 1, by omega, by rw [HSS.out]; go_num, by go_num, HB2.out⟩
            case measure => simp [intOf]; omega
          · obtain rfl : k = K := by omega
            have hT : L.take k = L := List.take_of_length_le (by rw [← HK.out]; omega)
            rw [hT]
            have HB2 := hid (HB1.out.trans (HB.out.mono HB1.out.size))
            generalize hsl : sumB L = sl at *
            go_wp2_with fail
            go_roundw
            case rel => exact ⟨j1, by have := HJ.out; omega, by rw [HSUM.out], by rw [HJ.out]; rfl, HB2.out⟩
            case measure => first | (simp [intOf]; done) | (simp [intOf]; omega))
    · obtain rfl : i = 4 := by omega
      go_wp2_with fail
      go_ret
      exact ⟨rfl, HB.out⟩
end Go.Proofs.Ytjgckbccbambmaa
