/- FnPXPeaks: the walk of the law. -/
import Derived.Test.YtmaghlckgfihcaaPeak
namespace Go.Proofs.Ytmaghlckgfihcaa
open Go.RowKit
set_option linter.unusedVariables false

theorem ints_length (l : List Nat) : (ints l).length = l.length := by simp [ints]
theorem ints_one (l : List Nat) : ∀ u ∈ ints l, u.oneCell' = true := by
  intro u hu
  obtain ⟨b, _, rfl⟩ := List.mem_map.1 hu
  rfl
def cl (x y a b : Nat) : List Nat := ((List.replicate 32 0).set x a).set y b
theorem cl_len (x y a b : Nat) : (cl x y a b).length = 32 := by simp [cl]
theorem cl_get {x y a b k : Nat} (hk : k < 32) : (cl x y a b)[k]'(by rw [cl_len]; exact hk) = cn x y a b k := by
  simp only [cl, cn, List.getElem_set, List.getElem_replicate]
  by_cases h1 : k = y
  · rw [if_pos h1.symm, if_pos h1]
  · rw [if_neg (fun e => h1 e.symm), if_neg h1]
    by_cases h2 : k = x
    · rw [if_pos h2.symm, if_pos h2]
    · rw [if_neg (fun e => h2 e.symm), if_neg h2]

theorem below_drewN' {B : Nat} {w w' : World} (h : Below B w w') : ∀ n, Below B w (w'.drewN n) := fun n => ⟨h.os, h.tape, h.output, h.size, h.block⟩
/-- The bound and whether there is one. -/
def PkOut2 (lo hi : Nat) (w : World) (e : Ending) (w' : World) : Prop :=
  ((hi ≤ lo + 2 ∧ e = .returned (.tuple #[.int .i64 0, .bool false])) ∨ (lo + 2 < hi ∧ ∃ v : Nat, lo < v ∧ v < hi ∧ e = .returned (.tuple #[.int .i64 ((8 * v : Nat) : Int), .bool true]))) ∧ Below w.heap.size w w'

theorem estimateD (x y a b g o c : Nat) (w : World) (hx : x < 32) (hy : y < 32) (hxy : x ≠ y) (ha : 0 < a) (hb : 0 < b) (ha2 : a ≤ 65535) (hb2 : b ≤ 65535) (hg : g < w.heap.size) (hC : ∀ k, k < 32 → w.cell? ⟨g, o + k, none⟩ = some (.int .i64 (cn x y a b k : Nat))) :
    Calls Try.prog 38 #[.slice (some ⟨g, o, none⟩) 32 c] w (PkOut (min x y) (max x y) w) := by
  have b0 : Below w.heap.size w (w.alloc (.cells #[.nilIface, .slice none 0 0, .slice none 0 0] 82)) := (Below.refl _ _).alloc (Nat.le_refl _) _
  have es := fun q => estimate q x y a b g o c (w.alloc (.cells #[.nilIface, .slice none 0 0, .slice none 0 0] 82)) hx hy hxy ha hb ha2 hb2 (fun k hk => (b0.cell (p := ⟨g, o + k, none⟩) hg).trans (hC k hk))
  have ES := hid es
  have HB := hid b0
  clear es b0 hC
  go_enter Try.func38, Try.ntmps38
  go_wp2_with fail
  refine (ES.out _).mono ?_
  rintro e w1 ⟨h1, hb1⟩
  have HB1 := hid (HB.out.trans (hb1.mono HB.out.size))
  clear hb1
  rcases h1 with ⟨h2, u, rfl⟩ | ⟨h2, v, h3, h4, rfl⟩
  · go_wp2_with fail
    go_ret2
    exact ⟨.inl ⟨h2, u, rfl⟩, HB1.out⟩
  · go_wp2_with fail
    go_ret2
    exact ⟨.inr ⟨h2, v, h3, h4, rfl⟩, HB1.out⟩

set_option maxHeartbeats 1000000 in
theorem blackPoint (x y a b : Nat) (A : Option Addr) (c : Nat) (w : World) (hx : x < 32) (hy : y < 32) (hxy : x ≠ y) (ha : 0 < a) (hb : 0 < b) (ha2 : a ≤ 65535) (hb2 : b ≤ 65535) (hR : Rd w A 32 (ints (cl x y a b))) :
    Calls Try.prog 18 #[.slice A 32 c] w (PkOut2 (min x y) (max x y) w) := by
  obtain ⟨i0, hi, hz0, hz1, hz2⟩ := info_parts info3
  have hlen : (ints (cl x y a b)).length = 32 := by rw [ints_length, cl_len]
  have HCL := hid (fun k (hk : k < 32) => cl_get (x := x) (y := y) (a := a) (b := b) hk)
  go_enter Try.func18, Try.ntmps18
  go_wp2_with (at_builtin; refine wpList_app _ rfl (.const (.slice none 0 0)) (.tmp 7) 26 rfl w.heap.size 3 i0 _ 8 Try.underlying26 hi hz0 hz1 hz2 rfl (.slice none 0 0) [] rfl (Own.nil _ _ _) A 32 c (ints (cl x y a b)) rfl hR (ints_one _) (by simp [maxLen]) (by simp) (Nat.le_refl _) ?_)
  intro v w1 hO hg _
  obtain ⟨A', c', hv, hR', hc'⟩ := hO.form
  have hl2 : ([] ++ ints (cl x y a b)).length = 32 := by simp [ints_length, cl_len]
  simp only [List.nil_append] at hv hR' hc' hl2
  rw [hl2] at hv hR' hc'
  subst hv
  have hB : Below w.heap.size w w1 := (Below.refl _ _).grown hg (Nat.le_refl _) (by simp [Value.ownBlock])
  obtain ⟨bb, oo, rfl, hbb, hcc⟩ := hR'.2 (by omega)
  have hC : ∀ k, k < 32 → w1.cell? ⟨bb, oo + k, none⟩ = some (.int .i64 (cn x y a b k : Nat)) := fun k hk => by
    rw [hcc k (by rw [hlen]; exact hk)]
    simp [ints, ← HCL.out k hk]
  have ed := estimateD x y a b bb oo c' w1 hx hy hxy ha hb ha2 hb2 hbb hC
  have HB := hid hB
  clear hO hg hR hR' hc' hl2 hlen HCL hcc hC hB hi hz0 hz1 hz2 hx hy hxy ha hb ha2 hb2
  go_wp2_with fail
  refine ed.mono ?_
  rintro e w2 ⟨h1, hb1⟩
  have HB1 := hid (HB.out.trans (hb1.mono HB.out.size))
  clear hb1 ed
  rcases h1 with ⟨h2, u, rfl⟩ | ⟨h2, v, h3, h4, rfl⟩
  · go_wp2_with fail
    go_quiet (fail)
    go_wp2
    go_ret2
    exact ⟨.inl ⟨h2, rfl⟩, below_drewN' HB1.out _⟩
  · go_wp2_with fail
    go_quiet (fail)
    go_wp2
    go_ret2
    exact ⟨.inr ⟨h2, v, h3, h4, rfl⟩, below_drewN' HB1.out _⟩

theorem made_toList (v : Value) (n : Nat) : (madeCells #[v] n).toList = List.replicate n v := by
  apply List.ext_getElem
  · simp [madeCells]
  · intro i h1 h2
    simp [madeCells, Nat.mod_one]

set_option maxRecDepth 20000 in
set_option maxHeartbeats 2000000 in
theorem peaks_core (w : World) (p q a b : Nat) (hp : p ≤ 255) (hq : q ≤ 255) (ha2 : a ≤ 65535) (hb2 : b ≤ 65535) :
    Calls Try.prog 5 #[.int .u8 p, .int .u8 q, .int .u16 a, .int .u16 b] w fun e w' => e = .returned (.bool true) ∧ Below w.heap.size w w' := by
  obtain ⟨x, hx⟩ : ∃ x : Nat, (p : Int) % 32 = (x : Int) := ⟨p % 32, by omega⟩
  obtain ⟨y, hy⟩ : ∃ y : Nat, (q : Int) % 32 = (y : Int) := ⟨q % 32, by omega⟩
  have hx2 : x < 32 := by omega
  have hy2 : y < 32 := by omega
  by_cases hxy : x = y
  · subst hxy
    go_enter Try.func5, Try.ntmps5
    go_wp2
    go_ret
    exact ⟨rfl, Below.refl _ _⟩
  have hne : ((x : Int) == (y : Int)) = false := by rw [beq_eq_false_iff_ne]; omega
  by_cases ha0 : a = 0
  · subst ha0
    show Calls Try.prog 5 #[.int .u8 p, .int .u8 q, .int .u16 0, .int .u16 b] w _
    go_enter Try.func5, Try.ntmps5
    go_wp2
    go_ret
    exact ⟨rfl, Below.refl _ _⟩
  have hna : ((a : Int) == 0) = false := by rw [beq_eq_false_iff_ne]; omega
  by_cases hb0 : b = 0
  · subst hb0
    show Calls Try.prog 5 #[.int .u8 p, .int .u8 q, .int .u16 a, .int .u16 0] w _
    go_enter Try.func5, Try.ntmps5
    go_wp2
    go_ret
    exact ⟨rfl, Below.refl _ _⟩
  have hnb : ((b : Int) == 0) = false := by rw [beq_eq_false_iff_ne]; omega
  obtain ⟨i0, hi, hz0, hz1, hz2⟩ := info_parts info3
  have hmk := fun W => run_make (P := Try.prog) W 26 3 i0 (.int .i64 0) Try.underlying26 hi hz0 .i64 .i64 32 32 (by omega) (by omega) (by rw [hz2]; omega) (by omega)
  simp only [hz1] at hmk
  have hmc := made_toList (.int .i64 0) 32
  have hmx : (madeCells #[Value.int .i64 0] 32)[x]? = some (.int .i64 0) := by
    rw [← Array.getElem?_toList, hmc, List.getElem?_replicate, if_pos hx2]
  have hmy : ((madeCells #[Value.int .i64 0] 32).setIfInBounds x (.int .i64 a))[y]? = some (.int .i64 0) := by
    rw [← Array.getElem?_toList, Array.toList_setIfInBounds, hmc, List.getElem?_set_ne hxy, List.getElem?_replicate, if_pos hy2]
  have A1 := Arr.of_new w 3 (((madeCells #[Value.int .i64 0] 32).setIfInBounds x (.int .i64 a)).setIfInBounds y (.int .i64 b))
  have hset : (((madeCells #[Value.int .i64 0] 32).setIfInBounds x (.int .i64 a)).setIfInBounds y (.int .i64 b)).toList = ints (cl x y a b) := by
    rw [Array.toList_setIfInBounds, Array.toList_setIfInBounds, hmc]; simp [ints, cl, List.map_set]
  rw [hset] at A1
  have R1 := Rd.of_arr A1
  rw [ints_length, cl_len] at R1
  have bp := blackPoint x y a b (some ⟨w.heap.size, 0, none⟩) 32 _ hx2 hy2 hxy (by omega) (by omega) ha2 hb2 R1
  have HB := hid (show Below w.heap.size w (w.alloc (.cells (((madeCells #[Value.int .i64 0] 32).setIfInBounds x (.int .i64 a)).setIfInBounds y (.int .i64 b)) 3)) from (Below.refl _ _).alloc (Nat.le_refl _) _)
  have hx3 : (x : Int) < 32 := by omega
  have hy3 : (y : Int) < 32 := by omega
  clear hset A1 R1 hmc hi hz0 hz1 hz2
  have HXY := hid hxy
  clear hxy
  go_enter Try.func5, Try.ntmps5
  go_wp2_with fail
  refine bp.mono ?_
  rintro e w1 ⟨h1, hb1⟩
  have HB1 := hid (HB.out.trans (hb1.mono HB.out.size))
  clear hb1 bp hmk hmx hmy HB
  rcases h1 with ⟨h2, rfl⟩ | ⟨h2, v, h3, h4, rfl⟩
  · rcases (by have := HXY.out; omega : x < y ∨ y < x) with h | h
    · have k1 : (x : Int) < (y : Int) := by omega
      have k2 : (y : Int) - (x : Int) ≤ 2 := by omega
      clear h2
      go_wp2
      go_ret
      exact ⟨rfl, HB1.out⟩
    · have k1 : (y : Int) < (x : Int) := by omega
      have k2 : (x : Int) - (y : Int) ≤ 2 := by omega
      clear h2
      go_wp2
      go_ret
      exact ⟨rfl, HB1.out⟩
  · rcases (by have := HXY.out; omega : x < y ∨ y < x) with h | h
    · have k1 : (x : Int) < (y : Int) := by omega
      have k2 : ¬ (y : Int) - (x : Int) ≤ 2 := by omega
      have k3 : 8 * (x : Int) + 7 < ((8 * v : Nat) : Int) := by omega
      have k4 : ((8 * v : Nat) : Int) ≤ 8 * (y : Int) := by omega
      clear h2 h3 h4
      generalize 8 * v = V at *
      go_wp2
      go_ret
      exact ⟨rfl, HB1.out⟩
    · have k1 : (y : Int) < (x : Int) := by omega
      have k2 : ¬ (x : Int) - (y : Int) ≤ 2 := by omega
      have k3 : 8 * (y : Int) + 7 < ((8 * v : Nat) : Int) := by omega
      have k4 : ((8 * v : Nat) : Int) ≤ 8 * (x : Int) := by omega
      clear h2 h3 h4
      generalize 8 * v = V at *
      go_wp2
      go_ret
      exact ⟨rfl, HB1.out⟩

theorem FnPXPeaks_walk (w : World) (a : Int) (ha : (Lit.int .u8 a).wf = true) (b : Int) (hb : (Lit.int .u8 b).wf = true) (c : Int) (hc : (Lit.int .u16 c).wf = true) (d : Int) (hd : (Lit.int .u16 d).wf = true) :
    Calls Try.prog 5 #[.int .u8 a, .int .u8 b, .int .u16 c, .int .u16 d] w fun e w' => e = .returned (.bool true) ∧ Below w.heap.size w w' := by
  have h0 := wf_u8 ha
  have h1 := wf_u8 hb
  have h2 := wf_u16 hc
  have h3 := wf_u16 hd
  obtain ⟨p, rfl⟩ := Int.eq_ofNat_of_zero_le h0.1
  obtain ⟨q, rfl⟩ := Int.eq_ofNat_of_zero_le h1.1
  obtain ⟨m, rfl⟩ := Int.eq_ofNat_of_zero_le h2.1
  obtain ⟨n, rfl⟩ := Int.eq_ofNat_of_zero_le h3.1
  exact peaks_core w p q m n (by omega) (by omega) (by omega) (by omega)
end Go.Proofs.Ytmaghlckgfihcaa
