/- FnRSScales: a polynomial times an element. -/
import Derived.Test.YtpkmknbmjlnkgaaScalA
namespace Go.Proofs.Ytpkmknbmjlnkgaa
open Go.RowKit
set_option linter.unusedVariables false

/-- A polynomial is handed back, an old one or a new one. -/
def PtrOut (F : Value) (l : List Nat) (w : World) (e : Ending) (w' : World) : Prop :=
  ∃ q B, e = .returned (fieldPtr q) ∧ IsPoly w' B q F l ∧ Below w.heap.size w w'

def scaleBy (p m c : Nat) (l : List Nat) : List Nat := l.map fun x => gm p m x c

theorem getZero (g p m base : Nat) (w : World) (hF : IsField w g p m base) :
    Calls Try.prog 51 #[fieldPtr g] w (PtrOut (fieldPtr g) [0] w) := by
  obtain ⟨ge, gl, qz, qo, a1, a2, a3, a4, a5⟩ := hF
  have d2 : w.cell? ⟨g, 2, none⟩ = some (.pointer (some ⟨qz, 0, none⟩)) := a1.cell? 2
  unfold fieldPtr at *
  clear a1 a2 a3 a5
  have H4 := hid a4
  clear a4
  go_enter Try.func51, Try.ntmps51
  go_wp2
  go_ret
  exact ⟨qz, _, rfl, H4.out, Below.refl _ _⟩

set_option maxHeartbeats 1000000 in
theorem multiplyBy0 (q g p m base B : Nat) (l : List Nat) (w : World) (h : IsGF p m) (hF : IsField w g p m base) (hP : IsPoly w B q (fieldPtr g) l) (hl1 : 1 ≤ l.length) (hl : l.length ≤ 1000000) :
    Calls Try.prog 38 #[fieldPtr q, .int .i64 0] w (PtrOut (fieldPtr g) [0] w) := by
  obtain ⟨b, o, c, c0, c1, hc⟩ := hP.coef hl1
  have gz := getZero g p m base w hF
  unfold fieldPtr at *
  clear hc c1 hP hF
  go_enter Try.func38, Try.ntmps38
  go_wp2_with fail
  refine gz.mono ?_
  rintro e w1 ⟨qz, B', rfl, hz, hb⟩
  have HZ := hid hz
  clear hz gz
  unfold fieldPtr
  go_wp2
  go_ret
  exact ⟨qz, B', rfl, HZ.out, hb⟩

theorem multiplyBy1 (q g B : Nat) (l : List Nat) (w : World) (hP : IsPoly w B q (fieldPtr g) l) :
    Calls Try.prog 38 #[fieldPtr q, .int .i64 1] w (PtrOut (fieldPtr g) l w) := by
  have HP := hid hP
  clear hP
  unfold fieldPtr at *
  go_enter Try.func38, Try.ntmps38
  go_wp2
  go_ret
  exact ⟨q, B, rfl, HP.out, Below.refl _ _⟩

theorem fill_set (xs : List Nat) (n k : Nat) (hn : xs.length = n) (hk : k < n) : (xs.take k ++ List.replicate (n - k) 0).set k (xs.getD k 0) = xs.take (k + 1) ++ List.replicate (n - (k + 1)) 0 := by
  have h1 : (xs.take k).length = k := by rw [List.length_take]; omega
  rw [List.set_append_right _ _ (by omega), h1, Nat.sub_self, show n - k = (n - (k + 1)) + 1 from by omega, List.replicate_succ, List.set_cons_zero, List.take_succ_eq_append_getElem (by omega), List.append_assoc]
  simp [List.getD, List.getElem?_eq_getElem (show k < xs.length by omega)]
theorem ints_set (l : List Nat) (k x : Nat) : (ints l).set k (.int .i64 (x : Nat)) = ints (l.set k x) := by simp [ints, List.map_set]

theorem IsField.below {w w' : World} {g p m base : Nat} (h : IsField w g p m base) (hB : Below w.heap.size w w') : IsField w' g p m base := by
  obtain ⟨ge, gl, qz, qo, a1, a2, a3, a4, a5⟩ := h
  exact ⟨ge, gl, qz, qo, a1.below hB a1.lt, a2.below hB a2.lt, a3.below hB a3.lt, a4.below hB, a5.below hB⟩

set_option maxHeartbeats 2000000 in
theorem multiplyBy2 (q g p m base B c : Nat) (l : List Nat) (w : World) (h : IsGF p m) (hF : IsField w g p m base) (hP : IsPoly w B q (fieldPtr g) l) (hl1 : 1 ≤ l.length) (hl : l.length ≤ 100000) (hA : AllIn m l) (hc2 : 2 ≤ c) (hc3 : c < 2 ^ m) :
    Calls Try.prog 38 #[fieldPtr q, .int .i64 c] w (PtrOut (fieldPtr g) (tidy (scaleBy p m c l)) w) := by
  obtain ⟨b, o, cp, c0, c1, hc⟩ := hP.coef hl1
  obtain ⟨i0, hi, hz0, hz1, hz2⟩ := info_parts info3
  have hN1 : 2 ^ m ≤ 4096 := Nat.pow_le_pow_right (n := 2) (by omega) h.small
  have hPlt := hP.lt
  have hbl : b < w.heap.size := World.block_lt_of_cell? w _ (hc 0 (by omega))
  have HPP := hid hP
  clear hP
  obtain ⟨n, hn⟩ : ∃ n, n = l.length := ⟨_, rfl⟩
  simp only [← hn] at c1 hc hl1 hl
  have HN := hid hn
  clear hn
  have hmk := fun W => run_make (P := Try.prog) W 30 3 i0 (.int .i64 0) Try.underlying30 hi hz0 .i64 .i64 n n (by omega) (by omega) (by rw [hz2]; omega) (by omega)
  simp only [hz1] at hmk
  have hx0 : ((c : Int) == 0) = false := by rw [beq_eq_false_iff_ne]; omega
  have hx1 : ((c : Int) == 1) = false := by rw [beq_eq_false_iff_ne]; omega
  have H := hid h
  have HF := hid hF
  have HA := hid hA
  clear hi hz0 hz1 hz2 h hF hA
  have e0 := hid (show List.replicate n (Value.int .i64 0) = ints ((scaleBy p m c l).take 0 ++ List.replicate (n - 0) 0) by simp [ints])
  have A1 := Arr.made w 3 (.int .i64 0) n
  rw [e0.out] at A1
  have B1 : Below w.heap.size w (w.alloc (.cells (madeCells #[.int .i64 0] n) 3)) := (Below.refl _ _).alloc (Nat.le_refl _) _
  unfold fieldPtr at *
  go_enter Try.func38, Try.ntmps38
  go_wp2
  generalize w.alloc (.cells (madeCells #[.int .i64 0] n) 3) = w1 at *
  clear hmk
  go_loopw [7] (fun i wr => ∃ k : Nat, k ≤ n ∧ i = .int .i64 k ∧ Arr wr w.heap.size 3 (ints ((scaleBy p m c l).take k ++ List.replicate (n - k) 0)) ∧ Below w.heap.size w wr) (fun i _ => n - (intOf i).toNat)
  case atStart => exact ⟨0, by omega, rfl, A1, B1⟩
  case round =>
    obtain ⟨k, hk, rfl, hR, hB⟩ := hrel
    by_cases hlt : k < n
    · have hlt' : (k : Int) < (n : Int) := by omega
      have ck := (hB.cell (p := ⟨b, o + k, none⟩) hbl).trans (hc k hlt)
      have k0 := (hB.cell (p := ⟨q, 0, none⟩) hPlt).trans c0
      have k1 := (hB.cell (p := ⟨q, 1, none⟩) hPlt).trans c1
      have HS := hid (fill_set (scaleBy p m c l) n k (by rw [scaleBy, List.length_map, HN.out]) hlt)
      have hy := getD_lt H.out HA.out k
      have HG := hid (show (scaleBy p m c l).getD k 0 = gm p m (l.getD k 0) c by simp [scaleBy, List.getD, List.getElem?_eq_getElem (show k < l.length by have := HN.out; omega)])
      obtain ⟨v0, hv0⟩ := hR.has k (by rw [ints_length, List.length_append, List.length_take, List.length_replicate, scaleBy, List.length_map, ← HN.out]; omega)
      have fz := hR.frozen k
      obtain ⟨W, hW⟩ : ∃ W, W = wr := ⟨_, rfl⟩
      have mu := fun j => multiply g p m base (l.getD k 0) c (wr.drewN j) H.out (HF.out.below (below_drewN hB j)) hy hc3
      unfold fieldPtr at mu
      generalize hs : gm p m (l.getD k 0) c = s at *
      generalize l.getD k 0 = y at *
      have HR := hid hR
      have HB := hid hB
      clear hR hB c0 c1 hc hW
      go_wp2_with fail
      go_region_with ((first | (go_at_call 31; ((with_reducible refine (mu _).mono ?_); rintro e w5 ⟨rfl, nq, rfl⟩)) | (go_at_call 31; ((with_reducible refine (mu 0).mono ?_); rintro e w5 ⟨rfl, nq, rfl⟩)) | (go_at_call 31; ((refine (mu 1).mono ?_); rintro e w5 ⟨rfl, nq, rfl⟩))))
      all_goals (
        go_wp2
        go_roundw
        case rel => exact ⟨k + 1, by omega, by go_num, by rw [← HS.out, HG.out, ← ints_set]; exact Arr.set (HR.out.drewN _) k _, Below.setCell (below_drewN HB.out _) (Nat.le_refl _) _⟩
        case measure => simp [intOf]; omega)
    · obtain rfl : k = n := by omega
      have hsl : (scaleBy p m c l).length = k := by rw [scaleBy, List.length_map, HN.out]
      have e1 : (scaleBy p m c l).take k ++ List.replicate (k - k) 0 = scaleBy p m c l := by rw [Nat.sub_self, List.take_of_length_le (by omega)]; simp
      rw [e1] at hR
      have k0 := (hB.cell (p := ⟨q, 0, none⟩) hPlt).trans c0
      have HR := hid hR
      clear c0 c1 hc hR
      go_wp2_with fail
      refine (newPoly (some ⟨g, 0, none⟩) (some ⟨w.heap.size, 0, none⟩) k k (scaleBy p m c l) w.heap.size wr (by have := Rd.of_arr HR.out; rwa [ints_length, hsl] at this) hl1 (by omega) (Nat.le_refl _) (fun a e => by injection e with e; subst e; exact Nat.le_refl _) hB.size).mono ?_
      rintro e w2 ⟨q2, rfl, hq2, hP2, hB2⟩
      have HP2 := hid hP2
      clear hP2
      go_wp2
      go_ret
      exact ⟨q2, _, rfl, HP2.out, hB.trans (hB2.mono hB.size)⟩
end Go.Proofs.Ytpkmknbmjlnkgaa
