/- FnBISources: the walk of the law. -/
import Derived.Test.YtifegijnhlbedaaSrcS
import Derived.Test.YtifegijnhlbedaaSrcQ
namespace Go.Proofs.Ytifegijnhlbedaa
open Go.RowKit
set_option linter.unusedVariables false

def widOf (z : Int) : Int := if z = 32 ∨ 40 < z then z % 32 else z
theorem widOf_in (z : Int) (h0 : -128 ≤ z) (h1 : z ≤ 127) : -128 ≤ widOf z ∧ widOf z ≤ 127 := by
  unfold widOf; split <;> omega
def widsTo (zs : List Int) (k : Nat) : List Int := (List.range k).map fun i => widOf (zs.getD i 0)
theorem widsTo_succ (zs : List Int) (k : Nat) : widsTo zs (k + 1) = widsTo zs k ++ [widOf (zs.getD k 0)] := by simp [widsTo, List.range_succ]
theorem widsTo_length (zs : List Int) (k : Nat) : (widsTo zs k).length = k := by simp [widsTo]
theorem widsTo_in (zs : List Int) (hz : ∀ j, -128 ≤ zs.getD j 0 ∧ zs.getD j 0 ≤ 127) (k j : Nat) : -128 ≤ (widsTo zs k).getD j 0 ∧ (widsTo zs k).getD j 0 ≤ 127 := by
  by_cases hj : j < k
  · rw [List.getD_eq_getElem?_getD, widsTo, List.getElem?_map, List.getElem?_range hj]
    exact widOf_in _ (hz j).1 (hz j).2
  · rw [List.getD_eq_getElem?_getD, List.getElem?_eq_none (by rw [widsTo_length]; omega)]; simp

theorem u8s_of (zs : List Int) (h : ∀ z ∈ zs, 0 ≤ z) : zs.map (Value.int .u8) = u8s (zs.map Int.toNat) := by
  rw [u8s, List.map_map]
  apply List.map_congr_left
  intro z hz
  have := h z hz
  simp only [Function.comp]
  rw [show ((z.toNat : Nat) : Int) = z from by omega]
theorem rd_i8 {w : World} {A : Option Addr} {n : Nat} {zs : List Int} (h : Rd w A n (zs.map (Value.int .i8))) (j : Nat) (hj : j < n) :
    ∃ b o, A = some ⟨b, o, none⟩ ∧ b < w.heap.size ∧ w.cell? ⟨b, o + j, none⟩ = some (.int .i8 (zs.getD j 0)) := by
  obtain ⟨b, o, hA, hb, hc⟩ := h.2 (by omega)
  have hl : zs.length = n := by have := h.1; simpa using this
  refine ⟨b, o, hA, hb, ?_⟩
  rw [hc j (by rw [List.length_map]; omega)]
  simp [List.getD, List.getElem?_eq_getElem (show j < zs.length by omega)]

theorem below_dN {C : Nat} {w w' : World} (h : Below C w w') (k : Nat) : Below C w (w'.drewN k) := ⟨h.os, h.tape, h.output, h.size, h.block⟩
def Out3 (f : Nat → Int) (g : Nat → Bool) (h : Nat → Int) (L : Nat) (w : World) (e : Ending) (w' : World) : Prop :=
  ∃ A1 c1 A2 c2 A3 c3, e = .returned (.tuple #[.slice A1 L c1, .slice A2 L c2, .slice A3 L c3]) ∧ Rd w' A1 L ((List.range L).map fun i => .int .i64 (f i)) ∧ Rd w' A2 L ((List.range L).map fun i => .bool (g i)) ∧ Rd w' A3 L ((List.range L).map fun i => .int .i64 (h i)) ∧ Below w.heap.size w w'
theorem bothRead (A : Option Addr) (n c : Nat) (l : List Nat) (B : Option Addr) (N d : Nat) (vs : List Int) (hn : n ≤ 40) (hN : N ≤ 60) (hb : ∀ j, l.getD j 0 < 256) (hvs : ∀ j, -128 ≤ vs.getD j 0 ∧ vs.getD j 0 ≤ 127) (hl : vs.length = N) :
    ∃ f g h, (∀ W, Rd W A n (u8s l) → Rd W B N (ints64 vs) → Calls Try.prog 19 #[.slice A n c, .slice B N d] W (Out3 f g h N W)) ∧ (∀ W, Rd W A n (u8s l) → Rd W B N (ints64 vs) → Calls Try.prog 20 #[.slice A n c, .slice B N d] W (Out3 f g h N W)) := by
  subst hl
  exact ⟨_, _, _, fun W h1 h2 => sourceRead A n c l B _ d vs W hn hN h1 hb h2 hvs, fun W h1 h2 => biSource A n c l B _ d vs W hn hN h1 hb h2 hvs⟩

theorem rd_f {w : World} {A : Option Addr} {n : Nat} {k : IntKind} {f : Nat → Int} (h : Rd w A n ((List.range n).map fun i => .int k (f i))) (j : Nat) (hj : j < n) :
    ∃ b o, A = some ⟨b, o, none⟩ ∧ w.cell? ⟨b, o + j, none⟩ = some (.int k (f j)) := by
  obtain ⟨b, o, v, hA, e, hc⟩ := rd_v h j hj
  simp only [List.getElem?_map, List.getElem?_range hj, Option.map_some, Option.some.injEq] at e
  subst e
  exact ⟨b, o, hA, hc⟩
theorem rd_g {w : World} {A : Option Addr} {n : Nat} {f : Nat → Bool} (h : Rd w A n ((List.range n).map fun i => .bool (f i))) (j : Nat) (hj : j < n) :
    ∃ b o, A = some ⟨b, o, none⟩ ∧ w.cell? ⟨b, o + j, none⟩ = some (.bool (f j)) := by
  obtain ⟨b, o, v, hA, e, hc⟩ := rd_v h j hj
  simp only [List.getElem?_map, List.getElem?_range hj, Option.map_some, Option.some.injEq] at e
  subst e
  exact ⟨b, o, hA, hc⟩

set_option maxRecDepth 4000 in
set_option maxHeartbeats 4000000 in
theorem sources_core (w : World) (A : Option Addr) (n c : Nat) (l : List Nat) (B : Option Addr) (N d : Nat) (zs : List Int) (hc : n ≤ c) (hcm : c ≤ maxLen) (hR : Rd w A n (u8s l)) (hb : ∀ j, l.getD j 0 < 256) (hV : Rd w B N (zs.map (Value.int .i8))) (hz : ∀ j, -128 ≤ zs.getD j 0 ∧ zs.getD j 0 ≤ 127) :
    Calls Try.prog 7 #[.slice A n c, .slice B N d] w fun e w' => e = .returned (.bool true) ∧ Below w.heap.size w w' := by
  obtain ⟨i3, hi3, hz30, hz31, hz32⟩ := info_parts info3s
  unfold maxLen at hcm
  by_cases hbig : (2147483647 : Int) < n
  · go_enter Try.func7, Try.ntmps7
    go_wp2
    go_ret
    exact ⟨rfl, Below.refl _ _⟩
  by_cases hbig2 : (2147483647 : Int) < N
  · go_enter Try.func7, Try.ntmps7
    go_wp2
    go_ret
    exact ⟨rfl, Below.refl _ _⟩
  obtain ⟨n', hn'⟩ : ∃ n', n' = min n 40 := ⟨_, rfl⟩
  have hn40 : n' ≤ 40 := by omega
  have hnn : n' ≤ n := by omega
  have hnc : n' ≤ c := by omega
  have hmin : min (n : Int) 40 = n' := by omega
  have hR' := hid (hR.take n' hnn)
  have hb' : ∀ j, (l.take n').getD j 0 < 256 := fun j => by
    by_cases hj : j < n'
    · have := hb j
      rw [List.getD_eq_getElem?_getD] at this ⊢
      rw [List.getElem?_take_of_lt hj]; exact this
    · rw [List.getD_eq_getElem?_getD, List.getElem?_eq_none (by rw [List.length_take]; omega)]; simp
  have hll : (u8s l).take n' = u8s (l.take n') := by simp [u8s, List.map_take]
  rw [hll] at hR'
  clear hR hb hll
  generalize l.take n' = l' at *
  obtain ⟨M, hM⟩ : ∃ M, M = min N 60 := ⟨_, rfl⟩
  have hM60 : M ≤ 60 := by omega
  have hMN : M ≤ N := by omega
  have hcs : (n' = n ∧ (n : Int) ≤ 40) ∨ (n' = 40 ∧ ¬ (n : Int) ≤ 40) := by omega
  have HM := hid hM
  clear hn' hmin hM
  rcases hcs with ⟨e, hcs⟩ | ⟨e, hcs⟩
  all_goals (
    rw [e] at hR' hn40 hnc
    clear e
    go_enter Try.func7, Try.ntmps7
    go_wp2
    go_loopw [5, 6] (fun v i wr => ∃ k : Nat, k ≤ M ∧ i = .int .i64 k ∧ Own wr w.heap.size 3 v (ints64 (widsTo zs k)) ∧ Below w.heap.size w wr) (fun _ i _ => M - (intOf i).toNat)
    case atStart => exact ⟨0, by omega, rfl, Own.nil _ _ _, Below.refl _ _⟩
    case round =>
      obtain ⟨k, hk, rfl, hO, hB⟩ := hrel
      by_cases hlt : k < M
      · have h1 : (k : Int) < (N : Int) := by omega
        have h2 : (k : Int) < 60 := by omega
        obtain ⟨b, o, rfl, hbw, hcell⟩ := rd_i8 hV k (by omega)
        have hc2 := (hB.cell (p := ⟨b, o + k, none⟩) hbw).trans hcell
        have HS := hid (widsTo_succ zs k)
        have HL := hid (widsTo_length zs k)
        have hz1 := (hz k).1
        have hz2 := (hz k).2
        have HW := hid (show widOf (zs.getD k 0) = if zs.getD k 0 = 32 ∨ 40 < zs.getD k 0 then zs.getD k 0 % 32 else zs.getD k 0 from rfl)
        generalize widOf (zs.getD k 0) = x at *
        generalize zs.getD k 0 = z at *
        generalize widsTo zs k = xs at *
        have HO := hid hO
        have HB := hid hB
        have HC := hid hcell
        have hx64 : (ints64 xs).length = k := by simp [ints64, HL.out]
        have HX := hid hx64
        clear hO hB hcell hx64
        have hzc : z = 32 ∨ (z ≠ 32 ∧ 40 < z) ∨ (z ≠ 32 ∧ z ≤ 40) := by omega
        have hxc : x = (if z = 32 ∨ 40 < z then z % 32 else z) := HW.out
        rcases hzc with z1 | ⟨z1, z2⟩ | ⟨z1, z2⟩
        · subst z1
          have hx0 : x = 0 := by rw [hxc]; decide
          subst hx0
          clear hxc HW
          go_wp2_with (at_builtin; refine wpList_app _ rfl _ _ 23 rfl w.heap.size 3 i3 _ 8 Try.underlying23 hi3 hz30 hz31 hz32 rfl u5 (ints64 xs) rfl (HO.out.alloc _) _ 1 1 [.int .i64 0] rfl (Rd.one' _ _ _ _ rfl) (by simp [Value.oneCell']) (by rw [HX.out]; unfold maxLen; omega) (by rw [HX.out]; omega) (by have := HB.out.size; simp; omega) ?_)
          intro v6 w6 hO6 hg6 _
          have B6 : Below w.heap.size w w6 := (HB.out.alloc HB.out.size _).grown hg6 (by have := HB.out.size; simp; omega) (fun j e => (HO.out.lt j e).1)
          clear hg6
          go_wp2
          go_roundw
          case rel => exact ⟨k + 1, by omega, by go_num, by rw [HS.out, ints64, List.map_append]; exact hO6, B6⟩
          case measure => simp [intOf]; omega
        · have hx0 : x = z % 32 := by rw [hxc, if_pos (Or.inr z2)]
          have hm : z % 32 = x := hx0.symm
          have HXX := hid hm
          have hneq : (z == 32) = false := by rw [beq_eq_false_iff_ne]; exact z1
          clear hxc HW hx0
          go_wp2_with (at_builtin; refine wpList_app _ rfl _ _ 23 rfl w.heap.size 3 i3 _ 8 Try.underlying23 hi3 hz30 hz31 hz32 rfl u5 (ints64 xs) rfl (HO.out.alloc _) _ 1 1 [.int .i64 x] rfl (Rd.one' _ _ _ _ rfl) (by simp [Value.oneCell']) (by rw [HX.out]; unfold maxLen; omega) (by rw [HX.out]; omega) (by have := HB.out.size; simp; omega) ?_)
          intro v6 w6 hO6 hg6 _
          have B6 : Below w.heap.size w w6 := (HB.out.alloc HB.out.size _).grown hg6 (by have := HB.out.size; simp; omega) (fun j e => (HO.out.lt j e).1)
          clear hg6
          go_wp2
          go_roundw
          case rel => exact ⟨k + 1, by omega, by go_num, by rw [HS.out, ints64, List.map_append]; exact hO6, B6⟩
          case measure => simp [intOf]; omega
        · have hx0 : x = z := by rw [hxc, if_neg (by omega)]
          subst hx0
          have hneq : (x == 32) = false := by rw [beq_eq_false_iff_ne]; exact z1
          clear hxc HW
          go_wp2_with (at_builtin; refine wpList_app _ rfl _ _ 23 rfl w.heap.size 3 i3 _ 8 Try.underlying23 hi3 hz30 hz31 hz32 rfl u5 (ints64 xs) rfl (HO.out.alloc _) _ 1 1 [.int .i64 x] rfl (Rd.one' _ _ _ _ rfl) (by simp [Value.oneCell']) (by rw [HX.out]; unfold maxLen; omega) (by rw [HX.out]; omega) (by have := HB.out.size; simp; omega) ?_)
          intro v6 w6 hO6 hg6 _
          have B6 : Below w.heap.size w w6 := (HB.out.alloc HB.out.size _).grown hg6 (by have := HB.out.size; simp; omega) (fun j e => (HO.out.lt j e).1)
          clear hg6
          go_wp2
          go_roundw
          case rel => exact ⟨k + 1, by omega, by go_num, by rw [HS.out, ints64, List.map_append]; exact hO6, B6⟩
          case measure => simp [intOf]; omega
      · obtain rfl : k = M := by omega
        obtain ⟨A1, c1, e1, R1, _⟩ := hO.form
        have hl64 : (ints64 (widsTo zs k)).length = k := by simp [ints64, widsTo_length]
        rw [hl64] at e1 R1
        subst e1
        obtain ⟨f, g, hh, r1, r2⟩ := bothRead A _ c l' A1 k c1 (widsTo zs k) hn40 hM60 hb' (widsTo_in zs hz k) (widsTo_length zs k)
        have HB := hid hB
        have HR1 := hid R1
        have HRA := hid (hR'.out.below hB)
        generalize ints64 (widsTo zs k) = xs at *
        have H2 := hid r2
        have H1 := hid r1
        clear hO hl64 R1 hB r1 r2
        by_cases hkn : (k : Int) < N
        · have hk60 : ¬ (k : Int) < 60 := by have := HM.out; omega
          go_wp2_with fail
          refine (H1.out _ HRA.out HR1.out).mono ?_
          rintro e w5 ⟨P1, d1, P2, d2, P3, d3, rfl, a1, a2, a3, b5⟩
          have B5 := HB.out.trans (b5.mono HB.out.size)
          have RA5 := hid (HRA.out.below b5)
          have RR5 := hid (HR1.out.below b5)
          have ha1 := hid a1
          have ha2 := hid a2
          have ha3 := hid a3
          clear a1 a2 a3 b5
          go_wp2_with fail
          refine (H2.out _ RA5.out RR5.out).mono ?_
          rintro e w6 ⟨Q1, e1, Q2, e2, Q3, e3, rfl, q1, q2, q3, b6⟩
          have B6 := B5.trans (b6.mono B5.size)
          have ga1 := hid (ha1.out.below b6)
          have ga2 := hid (ha2.out.below b6)
          have ga3 := hid (ha3.out.below b6)
          have gk1 := hid q1
          have gk2 := hid q2
          have gk3 := hid q3
          clear q1 q2 q3 b6 B5
          go_wp2_with fail
          refine (sameBits P2 Q2 k d2 e2 g w6 ga2.out gk2.out (by omega)).mono ?_
          rintro e w7 ⟨rfl, m7, rfl⟩
          go_wp2_with fail
          refine (sameInts P3 Q3 k d3 e3 hh _ (ga3.out.drewN _) (gk3.out.drewN _) (by omega)).mono ?_
          rintro e w8 ⟨rfl, m8, rfl⟩
          go_wp2
          go_loopw [14] (fun i wr' => ∃ j m : Nat, j ≤ k ∧ i = .int .i64 j ∧ wr' = w6.drewN m) (fun i _ => k - (intOf i).toNat)
          case atStart => exact ⟨0, _, by omega, rfl, rfl⟩
          case round =>
            obtain ⟨j, m, hj, rfl, rfl⟩ := hrel
            by_cases hjk : j < k
            · obtain ⟨x1, o1, rfl, cl1⟩ := rd_f ga1.out j hjk
              obtain ⟨x2, o2, rfl, cl2⟩ := rd_f gk1.out j hjk
              obtain ⟨x3, o3, rfl, cl3⟩ := rd_g gk2.out j hjk
              have hjk' : (j : Int) < k := by omega
              generalize f j = z at *
              rcases hgj : g j with _ | _
              all_goals (
                rw [hgj] at cl3
                clear hgj
                go_wp2
                go_quiet (fail)
                go_wp2
                go_roundw
                case rel => exact ⟨j + 1, _, by omega, by go_num, rfl⟩
                case measure => simp [intOf]; omega)
            · obtain rfl : j = k := by omega
              go_wp2
              go_ret
              exact ⟨rfl, below_dN B6 _⟩
        · go_wp2_with fail
          refine (H1.out _ HRA.out HR1.out).mono ?_
          rintro e w5 ⟨P1, d1, P2, d2, P3, d3, rfl, a1, a2, a3, b5⟩
          have B5 := HB.out.trans (b5.mono HB.out.size)
          have RA5 := hid (HRA.out.below b5)
          have RR5 := hid (HR1.out.below b5)
          have ha1 := hid a1
          have ha2 := hid a2
          have ha3 := hid a3
          clear a1 a2 a3 b5
          go_wp2_with fail
          refine (H2.out _ RA5.out RR5.out).mono ?_
          rintro e w6 ⟨Q1, e1, Q2, e2, Q3, e3, rfl, q1, q2, q3, b6⟩
          have B6 := B5.trans (b6.mono B5.size)
          have ga1 := hid (ha1.out.below b6)
          have ga2 := hid (ha2.out.below b6)
          have ga3 := hid (ha3.out.below b6)
          have gk1 := hid q1
          have gk2 := hid q2
          have gk3 := hid q3
          clear q1 q2 q3 b6 B5
          go_wp2_with fail
          refine (sameBits P2 Q2 k d2 e2 g w6 ga2.out gk2.out (by omega)).mono ?_
          rintro e w7 ⟨rfl, m7, rfl⟩
          go_wp2_with fail
          refine (sameInts P3 Q3 k d3 e3 hh _ (ga3.out.drewN _) (gk3.out.drewN _) (by omega)).mono ?_
          rintro e w8 ⟨rfl, m8, rfl⟩
          go_wp2
          go_loopw [14] (fun i wr' => ∃ j m : Nat, j ≤ k ∧ i = .int .i64 j ∧ wr' = w6.drewN m) (fun i _ => k - (intOf i).toNat)
          case atStart => exact ⟨0, _, by omega, rfl, rfl⟩
          case round =>
            obtain ⟨j, m, hj, rfl, rfl⟩ := hrel
            by_cases hjk : j < k
            · obtain ⟨x1, o1, rfl, cl1⟩ := rd_f ga1.out j hjk
              obtain ⟨x2, o2, rfl, cl2⟩ := rd_f gk1.out j hjk
              obtain ⟨x3, o3, rfl, cl3⟩ := rd_g gk2.out j hjk
              have hjk' : (j : Int) < k := by omega
              generalize f j = z at *
              rcases hgj : g j with _ | _
              all_goals (
                rw [hgj] at cl3
                clear hgj
                go_wp2
                go_quiet (fail)
                go_wp2
                go_roundw
                case rel => exact ⟨j + 1, _, by omega, by go_num, rfl⟩
                case measure => simp [intOf]; omega)
            · obtain rfl : j = k := by omega
              go_wp2
              go_ret
              exact ⟨rfl, below_dN B6 _⟩)

theorem FnBISources_walk (w : World) (A : Option Addr) (len cap : Nat) (zs : List Int) (hS : SlIn w A len cap (zs.map (Value.int .u8))) (hwf : ∀ n ∈ zs, (Lit.int .u8 n).wf = true) (B : Option Addr) (len2 cap2 : Nat) (ys : List Int) (hS2 : SlIn w B len2 cap2 (ys.map (Value.int .i8))) (hwf2 : ∀ n ∈ ys, (Lit.int .i8 n).wf = true) :
    Calls Try.prog 7 #[.slice A len cap, .slice B len2 cap2] w fun e w' => e = .returned (.bool true) ∧ Below w.heap.size w w' := by
  have hR := hS.rd
  rw [u8s_of zs (fun z hz => (wf_u8 (hwf z hz)).1)] at hR
  refine sources_core w A len cap _ B len2 cap2 ys hS.2.1 hS.2.2.1 hR (fun j => ?_) hS2.rd (fun j => ?_)
  · by_cases hj : j < zs.length
    · have := wf_u8 (hwf zs[j] (List.getElem_mem hj))
      rw [List.getD_eq_getElem?_getD, List.getElem?_map, List.getElem?_eq_getElem hj]
      simp only [Option.map_some, Option.getD_some]
      omega
    · rw [List.getD_eq_getElem?_getD, List.getElem?_eq_none (by rw [List.length_map]; omega)]; simp
  · by_cases hj : j < ys.length
    · have := wf_i8 (hwf2 ys[j] (List.getElem_mem hj))
      rw [List.getD_eq_getElem?_getD, List.getElem?_eq_getElem hj]
      exact this
    · rw [List.getD_eq_getElem?_getD, List.getElem?_eq_none (by omega)]; simp
end Go.Proofs.Ytifegijnhlbedaa
