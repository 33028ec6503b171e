/- QR codes: spec.QRWay, the places of the data, and spec.QRModules, the modules of a symbol. -/
import Derived.Test.YtpffffhgmhpkiaaQrM
import Derived.StillTailTactics
namespace Go.Proofs.Ytpffffhgmhpkiaa
open Go.RowKit
set_option linter.unusedVariables false
set_option linter.unusedSimpArgs false

section
variable {P : Program} {ops : Array Oper} {o : Oper} {a : Act}
/-- append of one pair. -/
theorem wpList_app2 (w : World) {rest : List Oper} {Q : Exit → Act → World → Prop} (hgd : o.guard = none) (s x : Operand) (t : TypeId)
    (ho : o.op = .call { callee := .builtin .append, args := #[s, x], argTypes := #[t, t] })
    (B : Nat) (i : TypeInfo) (z : Value) (bytes : Nat) (ht : P.underlying t = some (.slice 78)) (hi : P.info? 78 = some i) (hz : i.zero = some z)
    (hsize : i.size = 2) (hby : i.bytes = bytes) (hzs : z.cells.size = 2) (v : Value) (n : Nat) (xs : List Value) (hs : a.eval s = v) (hown : Own2 w B v n xs)
    (ad : Addr) (c : Nat) (news : List Value) (hx : a.eval x = .slice (some ad) 1 c) (hl : news.length = 2) (hr : ∀ j u, news[j]? = some u → w.cell? (ad.add j) = some u) (h1 : ∀ u ∈ news, u.oneCell' = true)
    (h63 : n + 1 ≤ maxLen) (hbytes : (n + 1) * bytes ≤ 140737488355328) (hB : B ≤ w.heap.size)
    (h : ∀ v' w', Own2 w' B v' (n + 1) (xs ++ news) → w.grownBy w' v.ownBlock → wpList P ops Q rest (a.put o.dst v') w') : wpList P ops Q (o :: rest) a w :=
  wpList_plain hgd fun _ hK => by
    obtain ⟨v', w', hrun, h2, h3, _, _⟩ := run_append_own_at (P := P) w B t o.type 78 i z 2 bytes ht hi hz hsize hby hzs (by omega) v n xs hown ad 1 c news (by omega) hr h1 h63 hbytes hB
    unfold Oper.wp execOp
    simp only [ho, resolve, invoke, builtin, Sem.run_bind, Sem.run_pure, Result.andThen_ok, List.map_toArray, List.map_cons, List.map_nil, hs, hx, hrun]
    exact hK _ _ (h v' w' h2 h3)
end
theorem below_app2 {B C n : Nat} {v : Value} {xs : List Value} {a w w' : World} (hb : Below C a w) (h : Own2 w B v n xs) (hg : w.grownBy w' v.ownBlock) (hC : C ≤ B) (hs : C ≤ w.heap.size) : Below C a w' :=
  hb.grown hg hs fun k hk => Nat.le_trans hC (h.lt k hk).1
/-- The state of the walk along the places. -/
structure WayAt (v n : Nat) (G : Nat) (w1 wr : World) (ov : Value) (L : List (Nat × Nat)) (m : Int) : Prop where
  len : (L.length : Int) ≤ m
  ok : PairsOk v n L
  own : Own2 wr w1.heap.size ov L.length (flatB L)
  bel : Below w1.heap.size w1 wr
def WayOut (v : Nat) (w : World) (e : Ending) (w' : World) : Prop :=
  ∃ A c L, e = .returned (.slice A (List.length L) c) ∧ L.length ≤ 60000 ∧ PairsOk v (17 + 4 * v) L ∧ Rd2 w' A L.length (flatB L) ∧ (∀ ad, A = some ad → w.heap.size ≤ ad.block) ∧ Below w.heap.size w w'
theorem WayAt.more {v n G : Nat} {w1 wr : World} {ov : Value} {L : List (Nat × Nat)} {m m' : Int} (h : WayAt v n G w1 wr ov L m) (hm : m ≤ m') : WayAt v n G w1 wr ov L m' := ⟨by have := h.len; omega, h.ok, h.own, h.bel⟩

set_option maxRecDepth 20000 in
set_option maxHeartbeats 16000000 in
theorem wayQ (v : Nat) (h1 : 1 ≤ v) (h2 : v ≤ 40) (w : World) : Calls Try.prog 35 #[.int .i64 v] w (WayOut v w) := by
  obtain ⟨i78, hi78, hz0, hz1, hz2⟩ := info_of2 info78
  have dq := fun W => dimQ v h2 W
  have gq := fun W => rowsGivenQ v h1 h2 W
  unfold WayOut
  obtain ⟨n, hn⟩ : ∃ n, n = 17 + 4 * v := ⟨_, rfl⟩
  rw [← hn] at dq gq ⊢
  have hn177 : n ≤ 177 := by omega
  have hn21 : 21 ≤ n := by omega
  clear hn
  go_enter Try.func35, Try.ntmps35
  go_wp2_with fail
  refine (dq _).mono ?_
  rintro e w1 ⟨rfl, rfl⟩
  go_wp2_with fail
  refine (gq _).mono ?_
  rintro e w1 ⟨G, gs, X, rfl, hG, hU, hX, hb⟩
  obtain ⟨R, hR1, hR2⟩ := grid_of hX
  have HR := hid (show Rows w1 G n gs R from RowsUp.congr hU hR1)
  have HQ := hid hR2
  have HB0 := hid hb
  clear hG hU hX hR1 hR2 hb dq gq
  go_wp2_with fail
  go_loopw [5, 6, 7] (fun ov uv rv wr => ∃ (L : List (Nat × Nat)) (u : Bool) (rt : Int), -3 ≤ rt ∧ rt ≤ (n : Int) - 1 ∧ rv = .int .i64 rt ∧ uv = .bool u ∧ WayAt v n G w1 wr ov L (300 * ((n : Int) - 1 - rt))) (fun _ _ rv _ => (intOf rv + 3).toNat)
  case atStart => exact ⟨[], true, (n : Int) - 1, by omega, by omega, rfl, rfl, by simp, fun p hp => by simp at hp, Own2.nil _ _, Below.refl _ _⟩
  case round =>
    obtain ⟨L, u, rt, hr1, hr2, rfl, rfl, HW⟩ := hrel
    have HW := hid HW
    by_cases hpos : 0 < rt
    · by_cases h6 : rt = 6
      · subst h6
        go_wp2_with fail
        go_loopw [5, 8] (fun ov iv wr => ∃ (L : List (Nat × Nat)) (i : Nat), i ≤ n ∧ iv = .int .i64 (i : Nat) ∧ WayAt v n G w1 wr ov L (300 * ((n : Int) - 1 - (6 : Int)) + 3 * (i : Int))) (fun _ iv _ => n - (intOf iv).toNat)
        case atStart => exact ⟨L, 0, by omega, rfl, HW.out.more (by omega)⟩
        case round =>
          clear HW
          obtain ⟨L2, i, hi, rfl, HW2⟩ := hrel
          have HW2 := hid HW2
          by_cases hlt : i < n
          · have hlt' : (i : Int) < (n : Int) := by omega
            cases u with
            | true =>
              obtain ⟨r, hr0⟩ : ∃ r, r = n - 1 - i := ⟨_, rfl⟩
              have hr : r < n := by omega
              have hr' : (n : Int) - 1 - (i : Int) = (r : Int) := by omega
              clear hr0
              go_wp2_with fail
              clear hr'
              go_loopw [5, 10] (fun ov cv wr => ∃ (L : List (Nat × Nat)) (c : Int), -1 ≤ c ∧ c ≤ (5 : Int) ∧ (5 : Int) - 2 ≤ c ∧ cv = .int .i64 c ∧ WayAt v n G w1 wr ov L (300 * ((n : Int) - 1 - (6 : Int)) + 3 * (i : Int) + ((6 : Int) - c))) (fun _ cv _ => (intOf cv + 2).toNat)
              case atStart => exact ⟨L2, (5 : Int), by omega, by omega, by omega, rfl, HW2.out.more (by omega)⟩
              case round =>
                clear HW2
                obtain ⟨L3, c, hc1, hc2, hc3, rfl, HW3⟩ := hrel
                have HW3 := hid HW3
                by_cases hc : (5 : Int) - 1 ≤ c
                · obtain ⟨k, rfl⟩ : ∃ k : Nat, c = k := ⟨c.toNat, by omega⟩
                  obtain ⟨x1, x2, _, x4, x5⟩ := (Rows.below HR.out HW3.out.bel (Rows.bounds HR.out).1 (Rows.bounds HR.out).2).cells r k hr (by omega)
                  have HQ3 := hid (HQ.out r k hr (by omega))
                  cases hb : R r k with
                  | true =>
                    rw [hb] at x2
                    clear hb HQ3
                    go_wp2_with fail
                    go_roundw
                    case rel => first | exact ⟨L3, (k : Int) - 1, by omega, by omega, by omega, by first | rfl | go_num, HW3.out.more (by omega)⟩ | ((repeat apply Exists.intro); exact ⟨⟨L3, (k : Int) - 1, by omega, by omega, by omega, rfl, HW3.out.more (by omega)⟩, rfl⟩)
                    case measure => first | (simp [intOf]; done) | (simp [intOf]; omega)
                  | false =>
                    rw [hb] at x2
                    rw [hb] at HQ3
                    have HP := hid (HW3.out.ok.app r k hr (by omega) HQ3.out.symm)
                    have HO := hid HW3.out.own
                    have hbel := HW3.out.bel.size
                    have hlen := HW3.out.len
                    have m1 := hid (show L3.length + 1 ≤ maxLen by unfold maxLen; omega)
                    have m2 := hid (show (L3.length + 1) * 16 ≤ 140737488355328 by omega)
                    have HF := hid (show flatB L3 ++ [.int .i64 (r : Nat), .int .i64 (k : Nat)] = flatB (L3 ++ [(r, k)]) from (flatB_app L3 [(r, k)]).symm)
                    clear hb HQ3 hlen
                    go_wp2_with ((at_builtin; refine wpList_app2 _ rfl _ _ 76 rfl w1.heap.size i78 _ 16 Try.underlying76 hi78 hz0 hz1 hz2 rfl _ L3.length (flatB L3) rfl (HO.out.alloc _) ⟨wr.heap.size, 0, none⟩ 1 [.int .i64 (r : Nat), .int .i64 (k : Nat)] rfl rfl (cell_two_at _ _ _ _ _ (by simp)) (by simp [Value.oneCell']) m1.out m2.out (by simp; omega) ?_))
                    intro v6 w6 hO6 hg6
                    have HW6 := hid (show WayAt v n G w1 w6 v6 (L3 ++ [(r, k)]) (300 * ((n : Int) - 1 - (6 : Int)) + 3 * (i : Int) + ((6 : Int) - ((k : Int) - 1))) from
                      ⟨by have := HW3.out.len; rw [List.length_append, List.length_singleton]; omega, HP.out, by rw [← HF.out, List.length_append, List.length_singleton]; exact hO6, below_app2 (HW3.out.bel.alloc (by exact hbel) _) (HO.out.alloc _) hg6 (Nat.le_refl _) (by simp; omega)⟩)
                    clear hO6 hg6 HO HP HF m1 m2
                    go_wp2_with fail
                    go_roundw
                    case rel => first | exact ⟨_, (k : Int) - 1, by omega, by omega, by omega, by first | rfl | go_num, HW6.out⟩ | ((repeat apply Exists.intro); exact ⟨⟨_, (k : Int) - 1, by omega, by omega, by omega, rfl, HW6.out⟩, rfl⟩)
                    case measure => first | (simp [intOf]; done) | (simp [intOf]; omega)
                · go_wp2_with fail
                  go_roundw
                  case rel => first | exact ⟨L3, i + 1, by omega, by go_num, HW3.out.more (by omega)⟩ | ((repeat apply Exists.intro); exact ⟨⟨L3, i + 1, by omega, rfl, HW3.out.more (by omega)⟩, rfl⟩)
                  case measure => first | (simp [intOf]; done) | (simp [intOf]; omega)
            | false =>
              go_wp2_with fail
              go_loopw [5, 10] (fun ov cv wr => ∃ (L : List (Nat × Nat)) (c : Int), -1 ≤ c ∧ c ≤ (5 : Int) ∧ (5 : Int) - 2 ≤ c ∧ cv = .int .i64 c ∧ WayAt v n G w1 wr ov L (300 * ((n : Int) - 1 - (6 : Int)) + 3 * (i : Int) + ((6 : Int) - c))) (fun _ cv _ => (intOf cv + 2).toNat)
              case atStart => exact ⟨L2, (5 : Int), by omega, by omega, by omega, rfl, HW2.out.more (by omega)⟩
              case round =>
                clear HW2
                obtain ⟨L3, c, hc1, hc2, hc3, rfl, HW3⟩ := hrel
                have HW3 := hid HW3
                by_cases hc : (5 : Int) - 1 ≤ c
                · obtain ⟨k, rfl⟩ : ∃ k : Nat, c = k := ⟨c.toNat, by omega⟩
                  obtain ⟨x1, x2, _, x4, x5⟩ := (Rows.below HR.out HW3.out.bel (Rows.bounds HR.out).1 (Rows.bounds HR.out).2).cells i k hlt (by omega)
                  have HQ3 := hid (HQ.out i k hlt (by omega))
                  cases hb : R i k with
                  | true =>
                    rw [hb] at x2
                    clear hb HQ3
                    go_wp2_with fail
                    go_roundw
                    case rel => first | exact ⟨L3, (k : Int) - 1, by omega, by omega, by omega, by first | rfl | go_num, HW3.out.more (by omega)⟩ | ((repeat apply Exists.intro); exact ⟨⟨L3, (k : Int) - 1, by omega, by omega, by omega, rfl, HW3.out.more (by omega)⟩, rfl⟩)
                    case measure => first | (simp [intOf]; done) | (simp [intOf]; omega)
                  | false =>
                    rw [hb] at x2
                    rw [hb] at HQ3
                    have HP := hid (HW3.out.ok.app i k hlt (by omega) HQ3.out.symm)
                    have HO := hid HW3.out.own
                    have hbel := HW3.out.bel.size
                    have hlen := HW3.out.len
                    have m1 := hid (show L3.length + 1 ≤ maxLen by unfold maxLen; omega)
                    have m2 := hid (show (L3.length + 1) * 16 ≤ 140737488355328 by omega)
                    have HF := hid (show flatB L3 ++ [.int .i64 (i : Nat), .int .i64 (k : Nat)] = flatB (L3 ++ [(i, k)]) from (flatB_app L3 [(i, k)]).symm)
                    clear hb HQ3 hlen
                    go_wp2_with ((at_builtin; refine wpList_app2 _ rfl _ _ 76 rfl w1.heap.size i78 _ 16 Try.underlying76 hi78 hz0 hz1 hz2 rfl _ L3.length (flatB L3) rfl (HO.out.alloc _) ⟨wr.heap.size, 0, none⟩ 1 [.int .i64 (i : Nat), .int .i64 (k : Nat)] rfl rfl (cell_two_at _ _ _ _ _ (by simp)) (by simp [Value.oneCell']) m1.out m2.out (by simp; omega) ?_))
                    intro v6 w6 hO6 hg6
                    have HW6 := hid (show WayAt v n G w1 w6 v6 (L3 ++ [(i, k)]) (300 * ((n : Int) - 1 - (6 : Int)) + 3 * (i : Int) + ((6 : Int) - ((k : Int) - 1))) from
                      ⟨by have := HW3.out.len; rw [List.length_append, List.length_singleton]; omega, HP.out, by rw [← HF.out, List.length_append, List.length_singleton]; exact hO6, below_app2 (HW3.out.bel.alloc (by exact hbel) _) (HO.out.alloc _) hg6 (Nat.le_refl _) (by simp; omega)⟩)
                    clear hO6 hg6 HO HP HF m1 m2
                    go_wp2_with fail
                    go_roundw
                    case rel => first | exact ⟨_, (k : Int) - 1, by omega, by omega, by omega, by first | rfl | go_num, HW6.out⟩ | ((repeat apply Exists.intro); exact ⟨⟨_, (k : Int) - 1, by omega, by omega, by omega, rfl, HW6.out⟩, rfl⟩)
                    case measure => first | (simp [intOf]; done) | (simp [intOf]; omega)
                · go_wp2_with fail
                  go_roundw
                  case rel => first | exact ⟨L3, i + 1, by omega, by go_num, HW3.out.more (by omega)⟩ | ((repeat apply Exists.intro); exact ⟨⟨L3, i + 1, by omega, rfl, HW3.out.more (by omega)⟩, rfl⟩)
                  case measure => first | (simp [intOf]; done) | (simp [intOf]; omega)
          · obtain rfl : i = n := by omega
            have hlt' : ¬ (i : Int) < (i : Int) := by omega
            go_wp2_with fail
            go_roundw
            case rel => first | exact ⟨L2, _, (5 : Int) - 2, by omega, by omega, by first | rfl | go_num, rfl, HW2.out.more (by omega)⟩ | ((repeat apply Exists.intro); exact ⟨⟨L2, _, (5 : Int) - 2, by omega, by omega, rfl, rfl, HW2.out.more (by omega)⟩, rfl⟩)
            case measure => first | (simp [intOf]; done) | (simp [intOf]; omega)
      · have h6' : (rt == 6) = false := by simpa using h6
        clear h6
        go_wp2_with fail
        go_loopw [5, 8] (fun ov iv wr => ∃ (L : List (Nat × Nat)) (i : Nat), i ≤ n ∧ iv = .int .i64 (i : Nat) ∧ WayAt v n G w1 wr ov L (300 * ((n : Int) - 1 - rt) + 3 * (i : Int))) (fun _ iv _ => n - (intOf iv).toNat)
        case atStart => exact ⟨L, 0, by omega, rfl, HW.out.more (by omega)⟩
        case round =>
          clear HW
          obtain ⟨L2, i, hi, rfl, HW2⟩ := hrel
          have HW2 := hid HW2
          by_cases hlt : i < n
          · have hlt' : (i : Int) < (n : Int) := by omega
            cases u with
            | true =>
              obtain ⟨r, hr0⟩ : ∃ r, r = n - 1 - i := ⟨_, rfl⟩
              have hr : r < n := by omega
              have hr' : (n : Int) - 1 - (i : Int) = (r : Int) := by omega
              clear hr0
              go_wp2_with fail
              clear hr'
              go_loopw [5, 10] (fun ov cv wr => ∃ (L : List (Nat × Nat)) (c : Int), -1 ≤ c ∧ c ≤ rt ∧ rt - 2 ≤ c ∧ cv = .int .i64 c ∧ WayAt v n G w1 wr ov L (300 * ((n : Int) - 1 - rt) + 3 * (i : Int) + (rt - c))) (fun _ cv _ => (intOf cv + 2).toNat)
              case atStart => exact ⟨L2, rt, by omega, by omega, by omega, rfl, HW2.out.more (by omega)⟩
              case round =>
                clear HW2
                obtain ⟨L3, c, hc1, hc2, hc3, rfl, HW3⟩ := hrel
                have HW3 := hid HW3
                by_cases hc : rt - 1 ≤ c
                · obtain ⟨k, rfl⟩ : ∃ k : Nat, c = k := ⟨c.toNat, by omega⟩
                  obtain ⟨x1, x2, _, x4, x5⟩ := (Rows.below HR.out HW3.out.bel (Rows.bounds HR.out).1 (Rows.bounds HR.out).2).cells r k hr (by omega)
                  have HQ3 := hid (HQ.out r k hr (by omega))
                  cases hb : R r k with
                  | true =>
                    rw [hb] at x2
                    clear hb HQ3
                    go_wp2_with fail
                    go_roundw
                    case rel => first | exact ⟨L3, (k : Int) - 1, by omega, by omega, by omega, by first | rfl | go_num, HW3.out.more (by omega)⟩ | ((repeat apply Exists.intro); exact ⟨⟨L3, (k : Int) - 1, by omega, by omega, by omega, rfl, HW3.out.more (by omega)⟩, rfl⟩)
                    case measure => first | (simp [intOf]; done) | (simp [intOf]; omega)
                  | false =>
                    rw [hb] at x2
                    rw [hb] at HQ3
                    have HP := hid (HW3.out.ok.app r k hr (by omega) HQ3.out.symm)
                    have HO := hid HW3.out.own
                    have hbel := HW3.out.bel.size
                    have hlen := HW3.out.len
                    have m1 := hid (show L3.length + 1 ≤ maxLen by unfold maxLen; omega)
                    have m2 := hid (show (L3.length + 1) * 16 ≤ 140737488355328 by omega)
                    have HF := hid (show flatB L3 ++ [.int .i64 (r : Nat), .int .i64 (k : Nat)] = flatB (L3 ++ [(r, k)]) from (flatB_app L3 [(r, k)]).symm)
                    clear hb HQ3 hlen
                    go_wp2_with ((at_builtin; refine wpList_app2 _ rfl _ _ 76 rfl w1.heap.size i78 _ 16 Try.underlying76 hi78 hz0 hz1 hz2 rfl _ L3.length (flatB L3) rfl (HO.out.alloc _) ⟨wr.heap.size, 0, none⟩ 1 [.int .i64 (r : Nat), .int .i64 (k : Nat)] rfl rfl (cell_two_at _ _ _ _ _ (by simp)) (by simp [Value.oneCell']) m1.out m2.out (by simp; omega) ?_))
                    intro v6 w6 hO6 hg6
                    have HW6 := hid (show WayAt v n G w1 w6 v6 (L3 ++ [(r, k)]) (300 * ((n : Int) - 1 - rt) + 3 * (i : Int) + (rt - ((k : Int) - 1))) from
                      ⟨by have := HW3.out.len; rw [List.length_append, List.length_singleton]; omega, HP.out, by rw [← HF.out, List.length_append, List.length_singleton]; exact hO6, below_app2 (HW3.out.bel.alloc (by exact hbel) _) (HO.out.alloc _) hg6 (Nat.le_refl _) (by simp; omega)⟩)
                    clear hO6 hg6 HO HP HF m1 m2
                    go_wp2_with fail
                    go_roundw
                    case rel => first | exact ⟨_, (k : Int) - 1, by omega, by omega, by omega, by first | rfl | go_num, HW6.out⟩ | ((repeat apply Exists.intro); exact ⟨⟨_, (k : Int) - 1, by omega, by omega, by omega, rfl, HW6.out⟩, rfl⟩)
                    case measure => first | (simp [intOf]; done) | (simp [intOf]; omega)
                · go_wp2_with fail
                  go_roundw
                  case rel => first | exact ⟨L3, i + 1, by omega, by go_num, HW3.out.more (by omega)⟩ | ((repeat apply Exists.intro); exact ⟨⟨L3, i + 1, by omega, rfl, HW3.out.more (by omega)⟩, rfl⟩)
                  case measure => first | (simp [intOf]; done) | (simp [intOf]; omega)
            | false =>
              go_wp2_with fail
              go_loopw [5, 10] (fun ov cv wr => ∃ (L : List (Nat × Nat)) (c : Int), -1 ≤ c ∧ c ≤ rt ∧ rt - 2 ≤ c ∧ cv = .int .i64 c ∧ WayAt v n G w1 wr ov L (300 * ((n : Int) - 1 - rt) + 3 * (i : Int) + (rt - c))) (fun _ cv _ => (intOf cv + 2).toNat)
              case atStart => exact ⟨L2, rt, by omega, by omega, by omega, rfl, HW2.out.more (by omega)⟩
              case round =>
                clear HW2
                obtain ⟨L3, c, hc1, hc2, hc3, rfl, HW3⟩ := hrel
                have HW3 := hid HW3
                by_cases hc : rt - 1 ≤ c
                · obtain ⟨k, rfl⟩ : ∃ k : Nat, c = k := ⟨c.toNat, by omega⟩
                  obtain ⟨x1, x2, _, x4, x5⟩ := (Rows.below HR.out HW3.out.bel (Rows.bounds HR.out).1 (Rows.bounds HR.out).2).cells i k hlt (by omega)
                  have HQ3 := hid (HQ.out i k hlt (by omega))
                  cases hb : R i k with
                  | true =>
                    rw [hb] at x2
                    clear hb HQ3
                    go_wp2_with fail
                    go_roundw
                    case rel => first | exact ⟨L3, (k : Int) - 1, by omega, by omega, by omega, by first | rfl | go_num, HW3.out.more (by omega)⟩ | ((repeat apply Exists.intro); exact ⟨⟨L3, (k : Int) - 1, by omega, by omega, by omega, rfl, HW3.out.more (by omega)⟩, rfl⟩)
                    case measure => first | (simp [intOf]; done) | (simp [intOf]; omega)
                  | false =>
                    rw [hb] at x2
                    rw [hb] at HQ3
                    have HP := hid (HW3.out.ok.app i k hlt (by omega) HQ3.out.symm)
                    have HO := hid HW3.out.own
                    have hbel := HW3.out.bel.size
                    have hlen := HW3.out.len
                    have m1 := hid (show L3.length + 1 ≤ maxLen by unfold maxLen; omega)
                    have m2 := hid (show (L3.length + 1) * 16 ≤ 140737488355328 by omega)
                    have HF := hid (show flatB L3 ++ [.int .i64 (i : Nat), .int .i64 (k : Nat)] = flatB (L3 ++ [(i, k)]) from (flatB_app L3 [(i, k)]).symm)
                    clear hb HQ3 hlen
                    go_wp2_with ((at_builtin; refine wpList_app2 _ rfl _ _ 76 rfl w1.heap.size i78 _ 16 Try.underlying76 hi78 hz0 hz1 hz2 rfl _ L3.length (flatB L3) rfl (HO.out.alloc _) ⟨wr.heap.size, 0, none⟩ 1 [.int .i64 (i : Nat), .int .i64 (k : Nat)] rfl rfl (cell_two_at _ _ _ _ _ (by simp)) (by simp [Value.oneCell']) m1.out m2.out (by simp; omega) ?_))
                    intro v6 w6 hO6 hg6
                    have HW6 := hid (show WayAt v n G w1 w6 v6 (L3 ++ [(i, k)]) (300 * ((n : Int) - 1 - rt) + 3 * (i : Int) + (rt - ((k : Int) - 1))) from
                      ⟨by have := HW3.out.len; rw [List.length_append, List.length_singleton]; omega, HP.out, by rw [← HF.out, List.length_append, List.length_singleton]; exact hO6, below_app2 (HW3.out.bel.alloc (by exact hbel) _) (HO.out.alloc _) hg6 (Nat.le_refl _) (by simp; omega)⟩)
                    clear hO6 hg6 HO HP HF m1 m2
                    go_wp2_with fail
                    go_roundw
                    case rel => first | exact ⟨_, (k : Int) - 1, by omega, by omega, by omega, by first | rfl | go_num, HW6.out⟩ | ((repeat apply Exists.intro); exact ⟨⟨_, (k : Int) - 1, by omega, by omega, by omega, rfl, HW6.out⟩, rfl⟩)
                    case measure => first | (simp [intOf]; done) | (simp [intOf]; omega)
                · go_wp2_with fail
                  go_roundw
                  case rel => first | exact ⟨L3, i + 1, by omega, by go_num, HW3.out.more (by omega)⟩ | ((repeat apply Exists.intro); exact ⟨⟨L3, i + 1, by omega, rfl, HW3.out.more (by omega)⟩, rfl⟩)
                  case measure => first | (simp [intOf]; done) | (simp [intOf]; omega)
          · obtain rfl : i = n := by omega
            have hlt' : ¬ (i : Int) < (i : Int) := by omega
            go_wp2_with fail
            go_roundw
            case rel => first | exact ⟨L2, _, rt - 2, by omega, by omega, by first | rfl | go_num, rfl, HW2.out.more (by omega)⟩ | ((repeat apply Exists.intro); exact ⟨⟨L2, _, rt - 2, by omega, by omega, rfl, rfl, HW2.out.more (by omega)⟩, rfl⟩)
            case measure => first | (simp [intOf]; done) | (simp [intOf]; omega)
    · go_wp2_with fail
      go_ret
      obtain ⟨A, c, rfl, hR⟩ := HW.out.own.form
      exact ⟨A, c, L, rfl, by have := HW.out.len; omega, HW.out.ok, hR, fun ad hA => Nat.le_trans HB0.out.size (HW.out.own.lt ad.block (by subst hA; rfl)).1, HB0.out.trans (HW.out.bel.mono HB0.out.size)⟩
end Go.Proofs.Ytpffffhgmhpkiaa
namespace Go.Proofs.Ytpffffhgmhpkiaa
open Go.RowKit
set_option linter.unusedVariables false
set_option linter.unusedSimpArgs false

def ModsOut (v n F V : Nat) (w : World) (e : Ending) (w' : World) : Prop :=
  ∃ G gs R, e = .returned (.slice (some ⟨G, 0, none⟩) n n) ∧ w.heap.size ≤ G ∧ Rows w' G n gs R ∧ (∀ W, Near v F V W R) ∧ Below w.heap.size w w'
structure ModAt (v n F V G : Nat) (gs : Nat → Nat) (w w1 w2 wr : World) (R : Nat → Nat → Bool) : Prop where
  rows : Rows wr G n gs R
  near : ∀ W, Near v F V W R
  bel : Below w.heap.size w wr
  size : w2.heap.size ≤ wr.heap.size
  keep : ∀ b, w1.heap.size ≤ b → b < w2.heap.size → wr.heap[b]? = w2.heap[b]?
section
variable {v n F V G : Nat} {gs : Nat → Nat} {w w1 w2 wr : World} {R : Nat → Nat → Bool}
theorem ModAt.alloc (h : ModAt v n F V G gs w w1 w2 wr R) (o : Obj) : ModAt v n F V G gs w w1 w2 (wr.alloc o) R :=
  ⟨h.rows.alloc o, h.near, h.bel.alloc h.bel.size o, Nat.le_trans h.size (by simp), fun b h1 h2 => (Below.heap_alloc wr o b (Nat.lt_of_lt_of_le h2 h.size)).trans (h.keep b h1 h2)⟩
theorem ModAt.drewN (h : ModAt v n F V G gs w w1 w2 wr R) (k : Nat) : ModAt v n F V G gs w w1 w2 (wr.drewN k) R :=
  ⟨h.rows.drewN k, h.near, below_drewN h.bel k, h.size, h.keep⟩
theorem ModAt.set (h : ModAt v n F V G gs w w1 w2 wr R) (hgs : ∀ r, r < n → w.heap.size ≤ gs r ∧ gs r < w1.heap.size) (hv : 1 ≤ v) (r c : Nat) (b : Bool) (hr : r < n) (hc : c < n) (hg : gvB v r c = false) :
    ModAt v n F V G gs w w1 w2 (wr.setCell ⟨gs r, c, none⟩ (.bool b)) (set2 R r c b) :=
  ⟨h.rows.set r c b hr, fun W => (h.near W).free hv r c b hg, h.bel.setCell (hgs r hr).1 _, by rw [World.size_setCell]; exact h.size,
    fun k h1 h2 => (Below.heap_setCell wr _ _ k (by have := (hgs r hr).2; simp; omega)).trans (h.keep k h1 h2)⟩
/-- A pair, read. -/
theorem ModAt.pair (h : ModAt v n F V G gs w w1 w2 wr R) {A : Option Addr} {L : List (Nat × Nat)} (hR : Rd2 w2 A L.length (flatB L)) (hA : ∀ ad, A = some ad → w1.heap.size ≤ ad.block) (i : Nat) (hi : i < L.length) :
    ∃ g, A = some ⟨g, 0, none⟩ ∧ wr.cell? ⟨g, i * 2, none⟩ = some (.int .i64 ((L.getD i (0, 0)).1 : Nat)) ∧ wr.cell? ⟨g, i * 2 + 1, none⟩ = some (.int .i64 ((L.getD i (0, 0)).2 : Nat)) := by
  obtain ⟨g, rfl, hgl, hc⟩ := hR.2 (by omega)
  obtain ⟨f1, f2⟩ := flatB_at L i hi
  have hg1 := hA _ rfl
  have hl := flatB_len L
  have hk := h.keep g hg1 hgl
  have e : ∀ j, wr.cell? ⟨g, j, none⟩ = w2.cell? ⟨g, j, none⟩ := fun j => by unfold World.cell?; rw [hk]
  refine ⟨g, rfl, ?_, ?_⟩
  · rw [e, hc (i * 2) (by omega), ← f1, List.getElem?_eq_getElem]
  · rw [e, hc (i * 2 + 1) (by omega), ← f2, List.getElem?_eq_getElem]
end

set_option maxRecDepth 20000 in
set_option maxHeartbeats 4000000 in
theorem maskB (m x y : Nat) (hm : m < 8) (hx : x ≤ 1000) (hy : y ≤ 1000) : ∃ b, ∀ w, Calls Try.prog 36 #[.int .i64 m, .int .i64 x, .int .i64 y] w fun e w' => e = .returned (.bool b) ∧ w = w' := by
  have p0 : (0 : Int) ≤ (x : Int) * (y : Int) := by rw [← Int.natCast_mul]; omega
  have p1 : (x : Int) * (y : Int) ≤ 1000000 := by rw [← Int.natCast_mul]; have : x * y ≤ 1000 * 1000 := Nat.mul_le_mul hx hy; omega
  rcases (show m = 0 ∨ m = 1 ∨ m = 2 ∨ m = 3 ∨ m = 4 ∨ m = 5 ∨ m = 6 ∨ m = 7 by omega) with rfl | rfl | rfl | rfl | rfl | rfl | rfl | rfl
  all_goals (
    apply Exists.intro
    intro w
    go_enter Try.func36, Try.ntmps36
    go_wp2_with fail
    go_ret
    exact ⟨rfl, rfl⟩)

set_option maxRecDepth 20000 in
set_option maxHeartbeats 16000000 in
theorem modsQ (v lv mk F gb nb : Nat) (l : List Bool) (w : World) (h1 : 1 ≤ v) (h2 : v ≤ 40) (hlv : lv < 4) (hmk : mk < 8) (hF : F = fb (8 * lv + mk)) (hA : Arr w gb 4 (l.map Value.bool)) (hl : l.length = nb) (hnb : nb ≤ 100000) :
    Calls Try.prog 14 #[.slice (some ⟨gb, 0, none⟩) nb nb, .int .i64 v, .int .i64 lv, .int .i64 mk] w (ModsOut v (17 + 4 * v) F (vtab.getD (v - 7) 0) w) := by
  have pq := fun W => rowsPatQ v lv mk F h1 h2 hlv hmk hF (by rw [hF]; exact fb_lt _) W
  have wq := fun W => wayQ v h1 h2 W
  have MQ := hid (fun x y (hx : x ≤ 1000) (hy : y ≤ 1000) => maskB mk x y hmk hx hy)
  unfold WayOut at wq
  obtain ⟨n, hn⟩ : ∃ n, n = 17 + 4 * v := ⟨_, rfl⟩
  obtain ⟨V, hV⟩ : ∃ V, V = vtab.getD (v - 7) 0 := ⟨_, rfl⟩
  rw [← hn, ← hV] at pq ⊢
  rw [← hn] at wq
  have hn177 : n ≤ 177 := by omega
  have HNF := hid (fun (R : Nat → Nat → Bool) (h : ∀ r c, r < n → c < n → gvB v r c = true → PatOk v F V r c (R r c)) W => near_of (v := v) (F := F) (V := V) (G := R) h1 (by rw [← hn]; exact h) W)
  have HA := hid hA
  have HL := hid hl
  clear hn hV hF hA hl
  go_enter Try.func14, Try.ntmps14
  go_wp2_with fail
  refine (pq _).mono ?_
  rintro e w1 ⟨G, gs, X, rfl, hG, hU, hX, hb⟩
  obtain ⟨R, hR1, hR2⟩ := grid_of hX
  have HR := hid (show Rows w1 G n gs R from RowsUp.congr hU hR1)
  have HN := hid (HNF.out R hR2)
  have HB := hid hb
  clear hU hX hR1 hR2 hb pq HNF
  go_wp2_with fail
  refine (wq _).mono ?_
  rintro e w2 ⟨A, c0, L, rfl, hLm, hok, hRd, hAd, hb⟩
  have HOK := hid hok
  have HRD := hid hRd
  have HAD := hid hAd
  have HGS := hid (show ∀ r, r < n → w.heap.size ≤ gs r ∧ gs r < w1.heap.size from fun r hr => ⟨Nat.le_trans hG (Nat.le_of_lt (RowsUp.row HR.out r hr).2), (Rows.bounds HR.out).2 r hr⟩)
  have HS := hid (show ModAt v n F V G gs w w1 w2 w2 R from ⟨Rows.below HR.out hb (Rows.bounds HR.out).1 (Rows.bounds HR.out).2, HN.out, HB.out.trans (hb.mono HB.out.size), Nat.le_refl _, fun _ _ _ => rfl⟩)
  obtain ⟨m, hm⟩ : ∃ m, m = L.length := ⟨_, rfl⟩
  have HM := hid hm
  rw [← hm] at hLm
  rw [← hm]
  clear hok hRd hAd hb wq HR HN HB hm
  go_wp2_with fail
  go_loopw [20] (fun iv wr => ∃ (i : Nat) (R : Nat → Nat → Bool), i ≤ m ∧ iv = .int .i64 (i : Nat) ∧ Hid (ModAt v n F V G gs w w1 w2 wr R)) (fun iv _ => m - (intOf iv).toNat)
  case atStart => exact ⟨0, R, by omega, rfl, HS⟩
  case round =>
    clear HS
    obtain ⟨i, R2, hi, rfl, HS⟩ := hrel
    by_cases hlt : i < m
    · have hlt' : (i : Int) < (m : Int) := by omega
      have hiL : i < L.length := by rw [← HM.out]; exact hlt
      obtain ⟨g, rfl, p1c, p2c⟩ := HS.out.pair HRD.out HAD.out i hiL
      obtain ⟨o1, o2, o3⟩ := HOK.out (L.getD i (0, 0)) (by rw [List.getD, List.getElem?_eq_getElem hiL]; exact List.getElem_mem hiL)
      have HO3 := hid o3
      clear o3 hiL
      generalize (L.getD i (0, 0)).1 = r at *
      generalize (L.getD i (0, 0)).2 = c at *
      obtain ⟨mb, mq⟩ := MQ.out c r (by omega) (by omega)
      have ri : (r : Int) < (n : Int) := by omega
      have ci : (c : Int) < (n : Int) := by omega
      by_cases hib : i < nb
      · have hib' : (i : Int) < (nb : Int) := by omega
        have hbit := (HA.out.below HS.out.bel HA.out.lt).cell i (by rw [List.length_map, HL.out]; exact hib)
        rw [List.getElem_map] at hbit
        have hgbl := (HA.out.below HS.out.bel HA.out.lt).lt
        obtain ⟨bit, hb⟩ : ∃ b, b = l[i]'(by rw [HL.out]; exact hib) := ⟨_, rfl⟩
        rw [← hb] at hbit
        clear hb
        go_wp2_with fail
        have HSD := hid ((HS.out.alloc (.cells #[.int .i64 (r : Nat), .int .i64 (c : Nat)] 78)).drewN 1)
        have l0 : ((wr.alloc (.cells #[.int .i64 (r : Nat), .int .i64 (c : Nat)] 78)).drewN 1).cell? ⟨wr.heap.size, 0, none⟩ = some (.int .i64 (r : Nat)) := (Arr.of_new wr 78 #[.int .i64 (r : Nat), .int .i64 (c : Nat)]).cell? 0
        have l1 : ((wr.alloc (.cells #[.int .i64 (r : Nat), .int .i64 (c : Nat)] 78)).drewN 1).cell? ⟨wr.heap.size, 1, none⟩ = some (.int .i64 (c : Nat)) := (Arr.of_new wr 78 #[.int .i64 (r : Nat), .int .i64 (c : Nat)]).cell? 1
        refine wp_region_still_tail 16 (by kernel_rfl) (by kernel_rfl) ?_
        change wpStill _ _ ((wr.alloc (.cells #[.int .i64 (r : Nat), .int .i64 (c : Nat)] 78)).drewN 1) (fun a' => wpList _ _ _ _ a' ((wr.alloc (.cells #[.int .i64 (r : Nat), .int .i64 (c : Nat)] 78)).drewN 1)) _ _
        obtain ⟨y1, y2, y3, y4, y5⟩ := HSD.out.rows.cells r c o1 o2
        clear p1c p2c HS hbit hgbl
        generalize (wr.alloc (.cells #[.int .i64 (r : Nat), .int .i64 (c : Nat)] 78)).drewN 1 = wd at *
        generalize wr.heap.size = gl at *
        simp only [List.take_succ_cons, List.take_zero, List.drop_succ_cons, List.drop_zero]
        repeat still_step
        refine wpStill_step (fun K hK => ?_)
        go_simp
        refine ⟨.bool mb, ?_, ?_⟩
        · with_reducible refine (mq _).mono ?_
          rintro e w5 ⟨rfl, rfl⟩
          exact ⟨rfl, rfl⟩
        refine hK _ ?_
        clear hK K mq
        repeat still_step
        rw [wpStill]
        show wpList _ _ _ _ _ _
        go_wp2_with fail
        go_roundw
        case rel =>
          have HT := hid (HSD.out.set HGS.out h1 r c (bit != mb) o1 o2 HO3.out)
          first | exact ⟨i + 1, _, by omega, by go_num, HT⟩ | ((repeat apply Exists.intro); exact ⟨⟨i + 1, _, by omega, rfl, HT⟩, rfl⟩)
        case measure => first | (simp [intOf]; done) | (simp [intOf]; omega)
      · have hib' : ¬ (i : Int) < (nb : Int) := by omega
        go_wp2_with fail
        have HSD := hid ((HS.out.alloc (.cells #[.int .i64 (r : Nat), .int .i64 (c : Nat)] 78)).drewN 1)
        have l0 : ((wr.alloc (.cells #[.int .i64 (r : Nat), .int .i64 (c : Nat)] 78)).drewN 1).cell? ⟨wr.heap.size, 0, none⟩ = some (.int .i64 (r : Nat)) := (Arr.of_new wr 78 #[.int .i64 (r : Nat), .int .i64 (c : Nat)]).cell? 0
        have l1 : ((wr.alloc (.cells #[.int .i64 (r : Nat), .int .i64 (c : Nat)] 78)).drewN 1).cell? ⟨wr.heap.size, 1, none⟩ = some (.int .i64 (c : Nat)) := (Arr.of_new wr 78 #[.int .i64 (r : Nat), .int .i64 (c : Nat)]).cell? 1
        refine wp_region_still_tail 16 (by kernel_rfl) (by kernel_rfl) ?_
        change wpStill _ _ ((wr.alloc (.cells #[.int .i64 (r : Nat), .int .i64 (c : Nat)] 78)).drewN 1) (fun a' => wpList _ _ _ _ a' ((wr.alloc (.cells #[.int .i64 (r : Nat), .int .i64 (c : Nat)] 78)).drewN 1)) _ _
        obtain ⟨y1, y2, y3, y4, y5⟩ := HSD.out.rows.cells r c o1 o2
        clear p1c p2c HS
        generalize (wr.alloc (.cells #[.int .i64 (r : Nat), .int .i64 (c : Nat)] 78)).drewN 1 = wd at *
        generalize wr.heap.size = gl at *
        simp only [List.take_succ_cons, List.take_zero, List.drop_succ_cons, List.drop_zero]
        repeat still_step
        refine wpStill_step (fun K hK => ?_)
        go_simp
        refine ⟨.bool mb, ?_, ?_⟩
        · with_reducible refine (mq _).mono ?_
          rintro e w5 ⟨rfl, rfl⟩
          exact ⟨rfl, rfl⟩
        refine hK _ ?_
        clear hK K mq
        repeat still_step
        rw [wpStill]
        show wpList _ _ _ _ _ _
        go_wp2_with fail
        go_roundw
        case rel =>
          have HT := hid (HSD.out.set HGS.out h1 r c mb o1 o2 HO3.out)
          first | exact ⟨i + 1, _, by omega, by go_num, HT⟩ | ((repeat apply Exists.intro); exact ⟨⟨i + 1, _, by omega, rfl, HT⟩, rfl⟩)
        case measure => first | (simp [intOf]; done) | (simp [intOf]; omega)
    · obtain rfl : i = m := by omega
      have hlt' : ¬ (i : Int) < (i : Int) := by omega
      go_wp2_with fail
      go_ret
      exact ⟨G, gs, R2, rfl, by assumption, HS.out.rows, HS.out.near, HS.out.bel⟩
end Go.Proofs.Ytpffffhgmhpkiaa
