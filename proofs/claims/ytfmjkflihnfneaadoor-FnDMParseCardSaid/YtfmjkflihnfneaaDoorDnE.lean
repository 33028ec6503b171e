/- spec.dmTriples. -/
import Derived.Test.YtfmjkflihnfneaaDoorDnD
namespace Go.Proofs.YtfmjkflihnfneaaDoor
open Go.RowKit
set_option linter.unusedVariables false
set_option linter.unusedSimpArgs false

theorem below_drewN {B : Nat} {w w' : World} (h : Below B w w') (n : Nat) : Below B w (w'.drewN n) := ⟨h.os, h.tape, h.output, h.size, fun k hk => h.block k hk⟩
theorem tri_drop (l : List Nat) (i : Nat) (h : i + 2 < l.length) : triW (l.drop i) =
    (1600 * l.getD i 0 + 40 * l.getD (i + 1) 0 + l.getD (i + 2) 0 + 1) / 256 :: (1600 * l.getD i 0 + 40 * l.getD (i + 1) 0 + l.getD (i + 2) 0 + 1) % 256 :: triW (l.drop (i + 3)) := by
  rw [drop_one l i (by omega), drop_one l (i + 1) (by omega), drop_one l (i + 2) h, triW]
theorem ints_at (l : List Nat) (i : Nat) (h : i < l.length) : (ints l)[i]? = some (.int .i64 (l.getD i 0 : Nat)) := by
  simp [ints, List.getD, List.getElem?_eq_getElem h]

set_option maxRecDepth 200000 in
set_option maxHeartbeats 4000000 in
theorem triplesM (l : List Nat) (h40 : ∀ c ∈ l, c < 40) (hl : l.length ≤ 4000) (h3 : l.length % 3 = 0) (gb go cp : Nat) (w : World) (hgb : gb < w.heap.size) (hR : Rd w (some ⟨gb, go, none⟩) l.length (ints l)) :
    Calls Tryd.prog 46 #[.slice (some ⟨gb, go, none⟩) l.length cp] w (BytesNew (triW l) w) := by
  obtain ⟨i5, hi, hz0, hz1, hz2⟩ := info_of info5
  have HC := hid (show ∀ i, i < l.length → w.cell? ⟨gb, go + i, none⟩ = some (.int .i64 (l.getD i 0 : Nat)) from fun i h => by
    obtain ⟨b, o, e1, e2⟩ := hR.at_ i h
    cases e1
    rw [e2]; exact ints_at l i h)
  have HLT := hid (fun i (hi : i < l.length) => show l.getD i 0 < 40 from by rw [List.getD, List.getElem?_eq_getElem hi]; exact h40 _ (List.getElem_mem hi))
  obtain ⟨N, hN⟩ : ∃ N, N = l.length := ⟨_, rfl⟩
  rw [← hN] at hl h3 ⊢
  have HN := hid hN
  obtain ⟨R, hRe⟩ : ∃ R, R = triW l := ⟨_, rfl⟩
  rw [← hRe]
  have HR := hid (show ([] : List Nat) ++ triW (l.drop 0) = R by rw [hRe]; rfl)
  clear hN hRe hR h40
  go_enter Tryd.func46, Tryd.ntmps46
  go_wp2_with fail
  go_loopw [3, 4] (fun ov iv wr => ∃ (i : Nat) (out : List Nat), i ≤ N ∧ i % 3 = 0 ∧ out.length ≤ i ∧ iv = .int .i64 (i : Nat) ∧ Hid (out ++ triW (l.drop i) = R) ∧ Hid (Own wr w.heap.size 5 ov (u8s out)) ∧ Hid (Below w.heap.size w wr)) (fun _ iv _ => N - (intOf iv).toNat)
  case atStart => exact ⟨0, [], by omega, by omega, by simp, rfl, HR, hid (Own.nil _ _ _), hid (Below.refl _ _)⟩
  case round =>
    clear HR
    obtain ⟨i, out, hi1, hi3, ho, rfl, HE, HO, HB⟩ := hrel
    by_cases hlt : i + 2 < N
    case neg =>
      obtain rfl : i = N := by omega
      have hlt' : ¬ (i : Int) + 2 < (i : Int) := by omega
      have hE := HE.out
      rw [HN.out, List.drop_length, triW, List.append_nil] at hE
      case x_2 => intro a b c t h; cases h
      obtain ⟨A9, c9, hv, _, _⟩ := HO.out.form
      subst hv
      go_wp2_with fail
      go_ret
      rw [← hE]
      exact ⟨_, rfl, HO.out, HB.out⟩
    case pos =>
      have hlt' : (i : Int) + 2 < (N : Int) := by omega
      have hi' : i + 2 < l.length := by rw [← HN.out]; exact hlt
      have c0 := (World.cell?_of_block (w := w) (HB.out.block gb hgb)).trans (HC.out i (by omega))
      have c1 := (World.cell?_of_block (w := w) (HB.out.block gb hgb)).trans (HC.out (i + 1) (by omega))
      have c2 := (World.cell?_of_block (w := w) (HB.out.block gb hgb)).trans (HC.out (i + 2) (by omega))
      have b0 := HLT.out i (by omega)
      have b1 := HLT.out (i + 1) (by omega)
      have b2 := HLT.out (i + 2) (by omega)
      have HT := hid (tri_drop l i hi')
      generalize l.getD i 0 = a at *
      generalize l.getD (i + 1) 0 = b at *
      generalize l.getD (i + 2) 0 = c at *
      obtain ⟨V, hV⟩ : ∃ V, V = 1600 * a + 40 * b + c + 1 := ⟨_, rfl⟩
      rw [← hV] at HT
      have hVl : V < 65536 := by omega
      have eV : 1600 * (a : Int) + 40 * (b : Int) + (c : Int) + 1 = (V : Nat) := by omega
      have hol : (u8s out).length = out.length := u8s_len out
      have m1 := hid (show (u8s out).length + 2 ≤ maxLen by rw [hol]; simp [maxLen]; omega)
      have m2 := hid (show ((u8s out).length + 2) * 1 ≤ 140737488355328 by rw [hol]; omega)
      have m3 := hid HB.out.size
      have hbs := HB.out.size
      clear hol hi'
      have t1 : ((i : Int) + 1).toNat = i + 1 := by omega
      have t2 : ((i : Int) + 2).toNat = i + 2 := by omega
      have t3 : (i : Int) + 1 < (N : Int) := by omega
      have t4 : (i : Int) < (N : Int) := by omega
      go_wp2_with fail
      have w1 : IntKind.i64.wrap ((i : Int) + 1) = (i : Int) + 1 := IntWalk.i64_in _ (by omega)
      have w2 : IntKind.i64.wrap ((i : Int) + 2) = (i : Int) + 2 := IntWalk.i64_in _ (by omega)
      have w3 : IntKind.i64.wrap (1600 * (a : Int)) = 1600 * (a : Int) := IntWalk.i64_in _ (by omega)
      have w4 : IntKind.i64.wrap (40 * (b : Int)) = 40 * (b : Int) := IntWalk.i64_in _ (by omega)
      have w5 : IntKind.i64.wrap (1600 * (a : Int) + 40 * (b : Int)) = 1600 * (a : Int) + 40 * (b : Int) := IntWalk.i64_in _ (by omega)
      have w6 : IntKind.i64.wrap (1600 * (a : Int) + 40 * (b : Int) + (c : Int)) = 1600 * (a : Int) + 40 * (b : Int) + (c : Int) := IntWalk.i64_in _ (by omega)
      have w7 : IntKind.i64.wrap (1600 * (a : Int) + 40 * (b : Int) + (c : Int) + 1) = (V : Nat) := by rw [eV]; exact IntWalk.i64_in _ (by omega)
      clear eV hV
      go_quiet (fail)
      clear w1 w3 w4 w5 w6 w7 c0 c1 c2
      have k1 : IntKind.u8.wrap ((V : Int) / 256) = ((V / 256 : Nat) : Int) := by rw [u8wrap]; omega
      have k2 : IntKind.u8.wrap ((V : Int) % 256) = ((V % 256 : Nat) : Int) := by rw [u8wrap]; omega
      go_wp2_with (at_builtin; refine wpList_app _ rfl _ _ 28 rfl w.heap.size 5 i5 _ 1 Tryd.underlying28 hi hz0 hz1 hz2 rfl _ (u8s out) rfl ((HO.out.drewN nq).alloc _) _ 2 2 [.int .u8 ((V : Int) / 256), .int .u8 ((V : Int) % 256)] rfl (Rd.of_arr (Arr.of_new _ 5 #[.int .u8 ((V : Int) / 256), .int .u8 ((V : Int) % 256)])) (by intro u hu; rcases List.mem_cons.1 hu with hu | hu; (· rw [hu]; rfl); rw [List.mem_singleton.1 hu]; rfl) m1.out m2.out (Nat.le_trans m3.out (by simp)) ?_)
      intro v4 w4 hO4 hg4 hown4
      have HO4 := hid (show Own w4 w.heap.size 5 v4 (u8s (out ++ [V / 256, V % 256])) from by unfold u8s at hO4 ⊢; rw [List.map_append]; exact hO4)
      have HB4 := hid ((Below.alloc (below_drewN HB.out nq) (show w.heap.size ≤ (wr.drewN nq).heap.size from hbs) (.cells #[.int .u8 ((V : Int) / 256), .int .u8 ((V : Int) % 256)] 5)).grown hg4 (by simp; omega) (fun k hk => (HO.out.lt k hk).1))
      have HE4 := hid (show (out ++ [V / 256, V % 256]) ++ triW (l.drop (i + 3)) = R by rw [← HE.out, HT.out, List.append_assoc]; rfl)
      clear hO4 hg4 hown4 HO HB HE
      go_wp2_with fail
      go_roundw
      case rel => exact ⟨i + 3, out ++ [V / 256, V % 256], by omega, by omega, by rw [List.length_append]; simp; omega, by go_num, HE4, HO4, HB4⟩
      case measure => simp [intOf]; omega
end Go.Proofs.YtfmjkflihnfneaaDoor
