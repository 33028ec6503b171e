/- Squares of modules: laws.zzFits7, laws.qrSquare. -/
import Derived.Test.YtjgckbccbambmaaGrid
import Derived.Test.YtjgckbccbambmaaProg
import Derived.Test.YtjgckbccbambmaaBits
import Derived.BigQuiet
import Derived.Deep.QuietTactic
import Derived.KernelRfl
import Derived.Deep.RegionHeld3
import Derived.Deep.LoopGhost
namespace Go.Proofs.Ytjgckbccbambmaa
open Go.RowKit
set_option linter.unusedVariables false

/-- What fits is not too long. -/
def FitOut (zs : List (List Bool)) (n : Nat) (w : World) (e : Ending) (w' : World) : Prop :=
  ∃ ok, e = .returned (.bool ok) ∧ w' = w ∧ (ok = true → n ≤ 2147483647 ∧ ∀ k, k < n → (zs.getD k []).length ≤ 2147483647)

theorem fits (A : Option Addr) (n cap : Nat) (zs : List (List Bool)) (w : World) (hR : RowsIn w A n cap zs) :
    Calls Try.prog 13 #[.slice A n cap] w (FitOut zs n w) := by
  obtain ⟨_, hnc, hcm, hX, hl⟩ := hR
  unfold maxLen at hcm
  by_cases hbig : (2147483647 : Int) < n
  · go_enter Try.func13, Try.ntmps13
    go_wp2
    go_ret
    exact ⟨false, rfl, rfl, fun h => by simp at h⟩
  have HX := hid hX
  have HL := hid hl
  clear hX hl
  go_enter Try.func13, Try.ntmps13
  go_wp2
  go_loop [10] (fun iv => ∃ i : Nat, i ≤ n ∧ iv = .int .i64 (i : Nat) ∧ Hid (∀ k, k < i → (zs.getD k []).length ≤ 2147483647)) (fun iv => n - (intOf iv).toNat)
  case atStart => exact ⟨0, by omega, rfl, hid (fun k hk => by omega)⟩
  case round =>
    obtain ⟨i, hi, rfl, hK⟩ := hrel
    by_cases hlt : i < n
    · have hlt' : (i : Int) < (n : Int) := by omega
      obtain ⟨b, o, Ra, c, rfl, hb, hc, hr, hlc⟩ := HX.out.at_ i hlt
      rw [List.length_map] at hc
      have hll := HL.out i hlt
      unfold maxLen at hll
      have HLN := hid (rfl : (zs.getD i []).length = (zs.getD i []).length)
      obtain ⟨ln, hln⟩ : ∃ ln, ln = (zs.getD i []).length := ⟨_, rfl⟩
      have HLE := hid hln
      rw [← hln] at hc hll
      clear hln hr hlc
      by_cases hb2 : (2147483647 : Int) < (ln : Int)
      · go_wp2
        go_ret
        exact ⟨false, rfl, rfl, fun h => by simp at h⟩
      · go_wp2
        go_round
        case rel => exact ⟨i + 1, by omega, by go_num, hid (fun k hk => by
          rcases Nat.lt_or_ge k i with h1 | h1
          · exact hK.out k h1
          · rw [show k = i from by omega, ← HLE.out]; omega)⟩
        case measure => simp [intOf]; omega
    · obtain rfl : i = n := by omega
      have hlt' : ¬ (i : Int) < (i : Int) := by omega
      go_wp2
      go_ret
      exact ⟨true, rfl, rfl, fun _ => ⟨by omega, hK.out⟩⟩

/-- Rows in new memory are handed back. -/
def RowsOut (n : Nat) (X : Nat → List Value) (w : World) (e : Ending) (w' : World) : Prop :=
  ∃ G, e = .returned (.slice (some ⟨G, 0, none⟩) n n) ∧ w.heap.size ≤ G ∧ RdRows w' (some ⟨G, 0, none⟩) n X ∧ Below w.heap.size w w'
/-- Row r of the square. -/
def sqRow (zs : List (List Bool)) (n r : Nat) : List Bool := (List.range n).map fun c => (zs.getD r []).getD c false
theorem sqRow_len (zs : List (List Bool)) (n r : Nat) : (sqRow zs n r).length = n := by simp [sqRow]
theorem sqRow_eq (z : List Bool) (n k : Nat) (hk : k ≤ n) (hz : k = n ∨ z.length ≤ k) : z.take k ++ List.replicate (n - (z.take k).length) false = (List.range n).map fun c => z.getD c false := by
  have hl : (z.take k).length = min k z.length := List.length_take
  apply List.ext_getElem
  · simp; omega
  · intro i h1 h2
    have h2' : i < n := by simpa using h2
    simp only [List.getElem_map, List.getElem_range]
    rcases Nat.lt_or_ge i (z.take k).length with h3 | h3
    · rw [List.getElem_append_left h3, List.getElem_take, List.getD, List.getElem?_eq_getElem (by omega)]
      rfl
    · rw [List.getElem_append_right h3, List.getElem_replicate, List.getD, List.getElem?_eq_none (by omega)]
      rfl

theorem info41 : (Try.prog.info? 41).map (fun i => (i.zero, i.size, i.bytes)) = some (some (.slice none 0 0), 1, 24) := by kernel_rfl
theorem info4 : (Try.prog.info? 4).map (fun i => (i.zero, i.size, i.bytes)) = some (some (.bool false), 1, 1) := by kernel_rfl
theorem info_at {t : TypeId} {z : Value} {b : Nat} (h : (Try.prog.info? t).map (fun i => (i.zero, i.size, i.bytes)) = some (some z, 1, b)) : ∃ i, Try.prog.info? t = some i ∧ i.zero = some z ∧ i.size = 1 ∧ i.bytes = b := by
  cases hi : Try.prog.info? t with
  | none => rw [hi] at h; simp at h
  | some i =>
    rw [hi] at h
    simp only [Option.map_some, Option.some.injEq, Prod.mk.injEq] at h
    exact ⟨i, rfl, h.1, h.2.1, h.2.2⟩

theorem fill_set {α : Type} (d : α) (X : List α) (n k : Nat) (hk : k < X.length) (hkn : k < n) : (X.take k ++ List.replicate (n - k) d).set k (X.getD k d) = X.take (k + 1) ++ List.replicate (n - (k + 1)) d := by
  have hl : (X.take k).length = k := by rw [List.length_take]; omega
  rw [List.set_append_right _ _ (by omega), hl, Nat.sub_self, show n - k = (n - (k + 1)) + 1 from by omega, List.replicate_succ, List.set_cons_zero, List.take_succ_eq_append_getElem hk, List.append_assoc]
  simp [List.getD, List.getElem?_eq_getElem hk]

set_option maxRecDepth 20000 in
set_option maxHeartbeats 4000000 in
theorem square (A : Option Addr) (n0 c0 n : Nat) (zs : List (List Bool)) (w : World) (hX : RdRows w A n0 (fun k => (zs.getD k []).map Value.bool)) (hl : ∀ k, k < n0 → (zs.getD k []).length ≤ 2147483647) (hn0 : n0 ≤ 2147483647) (hn : n = min n0 60) :
    Calls Try.prog 19 #[.slice A n0 c0] w (RowsOut n (fun r => (sqRow zs n r).map Value.bool) w) := by
  obtain ⟨i1, hi1, hy0, hy1, hy2⟩ := info_at info41
  obtain ⟨i4, hi4, hb0, hb1, hb2⟩ := info_at info4
  have hmin : (if (60 : Int) < (n0 : Int) then (60 : Int) else (n0 : Int)) = (n : Int) := by split <;> omega
  have hn60 : n ≤ 60 := by omega
  have hnn : n ≤ n0 := by omega
  have hmk := fun W => run_make (P := Try.prog) W 36 41 i1 (.slice none 0 0) Try.underlying36 hi1 hy0 .i64 .i64 (n : Int) (n : Int) (by omega) (by omega) (by rw [hy2]; omega) (by omega)
  simp only [hy1] at hmk
  have hmk2 := fun W => run_make (P := Try.prog) W 41 4 i4 (.bool false) Try.underlying41 hi4 hb0 .i64 .i64 (n : Int) (n : Int) (by omega) (by omega) (by rw [hb2]; omega) (by omega)
  simp only [hb1] at hmk2
  have HX := hid hX
  have HL := hid hl
  clear hX hl hn
  go_enter Try.func19, Try.ntmps19
  go_wp2
  have HA := hid (Arr.made w 41 (.slice none 0 0) n)
  have HB := hid (show Below w.heap.size w (w.alloc (.cells (madeCells #[.slice none 0 0] n) 41)) from (Below.refl _ _).alloc (Nat.le_refl _) _)
  generalize w.alloc (.cells (madeCells #[.slice none 0 0] n) 41) = w1 at *
  clear hmk
  go_loopw [14] (fun iv wr => ∃ (k : Nat) (gs : Nat → Nat), k ≤ n ∧ iv = .int .i64 (k : Nat) ∧ RowsUp wr w.heap.size 41 4 n k gs (fun r => (sqRow zs n r).map Value.bool) ∧ Below w.heap.size w wr) (fun iv _ => n - (intOf iv).toNat)
  case atStart => exact ⟨0, fun _ => 0, by omega, rfl, RowsUp.zero HA.out, HB.out⟩
  case round =>
    clear HA HB
    obtain ⟨k, gs, hk, rfl, hU, hB⟩ := hrel
    have HU := hid hU
    have HB := hid hB
    clear hU hB
    by_cases hlt : k < n
    · have hlt' : (k : Int) < (n : Int) := by omega
      have htop := HU.out.top.alloc (.cells (madeCells #[.bool false] n) 4)
      obtain ⟨v0, hv0⟩ := htop.has k (by simp; omega)
      have fz := htop.frozen k
      obtain ⟨b, o, Ra, c, rfl, hbw, hc, hr, hlc⟩ := HX.out.at_ k (by omega)
      have hll := HL.out k (by omega)
      have hGl := HU.out.top.lt
      have HTOP := hid htop
      have HR := hid hr
      have HC := hid hc
      rw [List.length_map] at hc hlc
      obtain ⟨z, hz⟩ : ∃ z, z = zs.getD k [] := ⟨_, rfl⟩
      have HZ := hid hz
      rw [← hz] at hc hlc hll
      clear htop hr hz
      go_wp2
      have HG1 := hid (show Arr ((wr.setCell ⟨w.heap.size, k, none⟩ (.slice (some ⟨wr.heap.size, 0, none⟩) n n)).alloc (.cells (madeCells #[.bool false] n) 4)) wr.heap.size 4 (List.replicate n (.bool false)) from by have := Arr.made (wr.setCell ⟨w.heap.size, k, none⟩ (.slice (some ⟨wr.heap.size, 0, none⟩) n n)) 4 (.bool false) n; rwa [World.size_setCell] at this)
      have HT1 := hid ((HU.out.top.set k (.slice (some ⟨wr.heap.size, 0, none⟩) n n)).alloc (.cells (madeCells #[.bool false] n) 4))
      have HBB := hid (show Below w.heap.size w ((wr.setCell ⟨w.heap.size, k, none⟩ (.slice (some ⟨wr.heap.size, 0, none⟩) n n)).alloc (.cells (madeCells #[.bool false] n) 4)) from (HB.out.setCell (by simp) _).alloc (by rw [World.size_setCell]; exact HB.out.size) _)
      have HN := hid (fun W x hx hb hA => HU.out.next (cs := madeCells #[.bool false] n) (m := n) (x := x) (w' := W) hlt hx hb hA)
      generalize hw2 : (wr.setCell ⟨w.heap.size, k, none⟩ (.slice (some ⟨wr.heap.size, 0, none⟩) n n)).alloc (.cells (madeCells #[.bool false] n) 4) = w2 at *
      generalize hgg : wr.heap.size = g at *
      have hs1 := HBB.out.size
      clear hv0 fz HTOP hw2 hc
      have HZL := hid (rfl : z.length = z.length)
      obtain ⟨zl, hzl⟩ : ∃ zl, zl = z.length := ⟨_, rfl⟩
      have HZL := hid hzl
      rw [← hzl] at hlc hll
      have HRW := hid (HX.out.below HBB.out)
      clear hzl
      go_loopw [6] (fun cv wr => ∃ c : Nat, c ≤ n ∧ c ≤ zl ∧ cv = .int .i64 (c : Nat) ∧ Arr wr g 4 ((z.take c ++ List.replicate (n - c) false).map Value.bool) ∧ Below g w2 wr) (fun cv _ => n - (intOf cv).toNat)
      case atStart => exact ⟨0, by omega, by omega, rfl, by simpa using HG1.out, Below.refl _ _⟩
      case round =>
        obtain ⟨c, hcn, hcz, rfl, hA, hB2⟩ := hrel
        have HA := hid hA
        have HB2 := hid hB2
        have hBw := hid (HBB.out.trans (hB2.mono (by omega)))
        obtain ⟨b', o', Ra', c', he, hbw', hc', hr', hlc'⟩ := (HX.out.below hBw.out).at_ k (by omega)
        cases he
        rw [List.length_map, ← HZ.out, ← HZL.out] at hc' hr' hlc'
        have htc := (HT1.out.below hB2 (by omega)).cell k (by simp; omega)
        simp only [List.getElem_set_self] at htc
        clear hA hB2
        by_cases hgo : c < n ∧ c < zl
        · obtain ⟨h1, h2⟩ := hgo
          have h1' : (c : Int) < (n : Int) := by omega
          have h2' : (c : Int) < (zl : Int) := by omega
          have h3' : (k : Int) < (n0 : Int) := by omega
          obtain ⟨bz, oz, rfl, hbz, hcz2⟩ := rd_bool hr' c h2
          obtain ⟨v1, hv1⟩ := HA.out.has c (by rw [List.length_map, List.length_append, List.length_take, List.length_replicate, ← HZL.out]; omega)
          have fz := HA.out.frozen c
          have HS := hid (fill_set false z n c (by rw [← HZL.out]; exact h2) h1)
          generalize z.getD c false = zc at *
          clear hr'
          go_wp2_with fail
          go_region
          all_goals (
            go_wp2_with fail
            go_roundw
            case rel =>
              refine ⟨c + 1, by omega, by omega, by go_num, ?_, Below.setCell HB2.out.drew (by simp) _⟩
              rw [← HS.out, List.map_set]
              exact (HA.out.drew).set c _
            case measure => simp [intOf]; omega)
        · have HE := hid (HN.out wr _ (by rw [List.length_map, List.length_append, List.length_take, List.length_replicate, ← HZL.out]; omega) (by exact HB2.out) HA.out)
          have HE2 := hid (show RowsUp wr w.heap.size 41 4 n (k + 1) (put gs k g) (fun r => (sqRow zs n r).map Value.bool) from HE.out.congr (fun r hr => by
            unfold put
            by_cases hrk : r = k
            · rw [if_pos hrk, hrk]
              have := sqRow_eq z n c hcn (by rw [← HZL.out]; omega)
              rw [List.length_take, ← HZL.out, Nat.min_eq_left hcz] at this
              rw [this, HZ.out]
              rfl
            · rw [if_neg hrk]))
          clear HE HN
          by_cases h1 : c < n
          · have h1' : (c : Int) < (n : Int) := by omega
            have h2' : ¬ (c : Int) < (zl : Int) := by omega
            have h3' : (k : Int) < (n0 : Int) := by omega
            clear hgo hr'
            go_wp2_with fail
            go_roundw
            case rel => exact ⟨k + 1, _, by omega, by go_num, HE2.out, hBw.out⟩
            case measure => simp [intOf]; omega
          · have h1' : ¬ (c : Int) < (n : Int) := by omega
            clear hgo hr'
            go_wp2_with fail
            go_roundw
            case rel => exact ⟨k + 1, _, by omega, by go_num, HE2.out, hBw.out⟩
            case measure => simp [intOf]; omega
    · obtain rfl : k = n := by omega
      have hlt' : ¬ (k : Int) < (k : Int) := by omega
      go_wp2
      go_ret
      exact ⟨w.heap.size, rfl, Nat.le_refl _, HU.out.rd, HB.out⟩
end Go.Proofs.Ytjgckbccbambmaa
