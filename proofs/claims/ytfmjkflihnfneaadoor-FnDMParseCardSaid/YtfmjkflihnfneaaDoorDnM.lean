/- laws.dmSized. -/
import Derived.Test.YtfmjkflihnfneaaDoorDmA
import Derived.Test.YtfmjkflihnfneaaDoorDnH
namespace Go.Proofs.YtfmjkflihnfneaaDoor
open Go.RowKit
set_option linter.unusedVariables false
set_option linter.unusedSimpArgs false

/-- The slice value v owns n sizes, their cells xs. -/
def Own7 (w : World) (B : Nat) (v : Value) (n : Nat) (xs : List Value) : Prop := w.ownsRow B 32 7 v n xs
section
variable {w w' : World} {A : Option Addr} {B n : Nat} {v : Value} {xs : List Value}
theorem Own7.nil (w : World) (B : Nat) : Own7 w B (.slice none 0 0) 0 [] := World.ownsRow_nil _ _ _ _
theorem Own7.alloc (h : Own7 w B v n xs) (o : Obj) : Own7 (w.alloc o) B v n xs := World.ownsRow.alloc h o
theorem Own7.lt (h : Own7 w B v n xs) (k : Nat) (hk : v.ownBlock = some k) : B ≤ k ∧ k < w.heap.size := World.ownsRow.lt h k hk
theorem Own7.form (h : Own7 w B v n xs) : ∃ A c, v = .slice A n c ∧ (0 < n → ∃ g, A = some ⟨g, 0, none⟩ ∧ B ≤ g ∧ g < w.heap.size ∧ ∀ k (h : k < xs.length), w.cell? ⟨g, k, none⟩ = some xs[k]) := by
  rcases h.2 with ⟨rfl, rfl⟩ | ⟨g, cap, cur, rfl, hB, hg, hnc, _, hcs, ht⟩
  · exact ⟨none, 0, rfl, fun hn => absurd hn (by omega)⟩
  · refine ⟨_, _, rfl, fun hn => ⟨g, rfl, hB, (h.lt g rfl).2, fun k hk => ?_⟩⟩
    have := h.cells (g := g) rfl k xs[k] (List.getElem?_eq_getElem hk)
    unfold Addr.add at this
    by_cases hk0 : k = 0
    · subst hk0; simpa using this
    · simpa [hk0] using this
end
section
variable {P : Program} {ops : Array Oper} {o : Oper} {a : Act}
theorem news_arr {w : World} {t : TypeId} (cs : List Value) (g : Nat) (hg : g = w.heap.size) : ∀ j u, cs[j]? = some u → (w.alloc (.cells cs.toArray t)).cell? ((⟨g, 0, none⟩ : Addr).add j) = some u := by
  subst hg
  intro j u hu
  have hA := Arr.of_new w t cs.toArray
  have h := hA.cell? j
  have e : (⟨w.heap.size, 0, none⟩ : Addr).add j = ⟨w.heap.size, j, none⟩ := by
    unfold Addr.add
    by_cases h0 : j = 0
    · subst h0; simp
    · simp [h0]
  rw [e, h]
  simpa using hu
theorem wpList_app7 (w : World) {rest : List Oper} {Q : Exit → Act → World → Prop} (hgd : o.guard = none) (s x : Operand) (t : TypeId)
    (ho : o.op = .call { callee := .builtin .append, args := #[s, x], argTypes := #[t, t] })
    (B : Nat) (i : TypeInfo) (z : Value) (bytes : Nat) (ht : P.underlying t = some (.slice 32)) (hi : P.info? 32 = some i) (hz : i.zero = some z)
    (hsize : i.size = 7) (hby : i.bytes = bytes) (hzs : z.cells.size = 7) (v : Value) (n : Nat) (xs : List Value) (hs : a.eval s = v) (hown : Own7 w B v n xs)
    (ad : Addr) (c : Nat) (news : List Value) (hx : a.eval x = .slice (some ad) 1 c) (hl : news.length = 7) (hr : ∀ j u, news[j]? = some u → w.cell? (ad.add j) = some u) (h1 : ∀ u ∈ news, u.oneCell' = true)
    (h63 : n + 1 ≤ maxLen) (hbytes : (n + 1) * bytes ≤ 140737488355328) (hB : B ≤ w.heap.size)
    (h : ∀ v' w', Own7 w' B v' (n + 1) (xs ++ news) → w.grownBy w' v.ownBlock → wpList P ops Q rest (a.put o.dst v') w') : wpList P ops Q (o :: rest) a w := by
  obtain ⟨v', w', hrun, h2, h3, _, _⟩ := run_append_own_at (P := P) w B t o.type 32 i z 7 bytes ht hi hz hsize hby hzs (by omega) v n xs hown ad 1 c news (by omega) hr h1 h63 hbytes hB
  refine wpList_plain hgd fun _ hK => ?_
  unfold Oper.wp execOp
  simp only [ho, resolve, invoke, builtin, Sem.run_bind, Sem.run_pure, Result.andThen_ok, List.map_toArray, List.map_cons, List.map_nil, hs, hx, hrun]
  exact hK _ _ (h v' w' h2 h3)
end
theorem info32 : (Tryd.prog.info? 32).map (fun i => (i.zero, i.size, i.bytes)) = some (some (.agg #[.int .i64 0, .int .i64 0, .int .i64 0, .int .i64 0, .int .i64 0, .int .i64 0, .int .i64 0]), 7, 56) := by kernel_rfl
theorem info_of7 {t : TypeId} {z : Value} {b : Nat} (h : (Tryd.prog.info? t).map (fun i => (i.zero, i.size, i.bytes)) = some (some z, 7, b)) : ∃ i, Tryd.prog.info? t = some i ∧ i.zero = some z ∧ i.size = 7 ∧ i.bytes = b := by
  cases hi : Tryd.prog.info? t with
  | none => rw [hi] at h; cases h
  | some i =>
    rw [hi] at h
    simp only [Option.map_some, Option.some.injEq, Prod.mk.injEq] at h
    exact ⟨i, rfl, h.1, h.2.1, h.2.2⟩
def szCells (k : Nat) : List Value := [.int .i64 (szf k 0 : Nat), .int .i64 (szf k 1 : Nat), .int .i64 (szf k 2 : Nat), .int .i64 (szf k 3 : Nat), .int .i64 (szf k 4 : Nat), .int .i64 (szf k 5 : Nat), .int .i64 (szf k 6 : Nat)]
def szFlatOf (js : List Nat) : List Value := js.flatMap szCells
theorem szFlatOf_snoc (js : List Nat) (k : Nat) : szFlatOf (js ++ [k]) = szFlatOf js ++ szCells k := by simp [szFlatOf]
theorem szFlatOf_len : ∀ js : List Nat, (szFlatOf js).length = 7 * js.length
  | [] => rfl
  | j :: js => by
    have := szFlatOf_len js
    simp only [szFlatOf, List.flatMap_cons, List.length_append, List.length_cons] at this ⊢
    rw [this]; simp [szCells]; omega
theorem szFlatOf_at : ∀ (js : List Nat) (i f : Nat), i < js.length → f < 7 → (szFlatOf js)[i * 7 + f]? = some (.int .i64 (szf (js.getD i 0) f : Nat))
  | [], _, _, h, _ => absurd h (by simp)
  | j :: js, 0, f, h, hf => by
    have : f = 0 ∨ f = 1 ∨ f = 2 ∨ f = 3 ∨ f = 4 ∨ f = 5 ∨ f = 6 := by omega
    rcases this with rfl | rfl | rfl | rfl | rfl | rfl | rfl <;> simp [szFlatOf, szCells]
  | j :: js, i + 1, f, h, hf => by
    have ih := szFlatOf_at js i f (by simpa using h) hf
    have e : szFlatOf (j :: js) = szCells j ++ szFlatOf js := by simp [szFlatOf]
    rw [e, List.getElem?_append_right (by simp [szCells]; omega)]
    rw [show (i + 1) * 7 + f - (szCells j).length = i * 7 + f from by simp [szCells]; omega, ih]
    simp

/-- A size that has room for the words and three more, or none. -/
def SizedOut (n : Nat) (w : World) (e : Ending) (w' : World) : Prop :=
  (e = .returned (.tuple #[.agg #[.int .i64 0, .int .i64 0, .int .i64 0, .int .i64 0, .int .i64 0, .int .i64 0, .int .i64 0], .bool false]) ∨ ∃ k, k < 30 ∧ n + 3 ≤ szf k 4 ∧ e = .returned (.tuple #[szAgg k, .bool true])) ∧ Below w.heap.size w w'
set_option maxRecDepth 20000 in
set_option maxHeartbeats 4000000 in
theorem sizedM (A : Option Addr) (n c : Nat) (hn : n ≤ 1000000) (z : Int) (hz1 : -9223372036854775808 ≤ z) (hz2 : z ≤ 9223372036854775807) (w : World) :
    Calls Tryd.prog 9 #[.slice A n c, .int .i64 z] w (SizedOut n w) := by
  obtain ⟨i7, gi, gz0, gz1, gz2⟩ := info_of7 info32
  have sz := fun W => dmSizes W
  have HSZ := hid sz
  clear sz
  go_enter Tryd.func9, Tryd.ntmps9
  go_wp2_with (go_at_call 16; ((with_reducible refine (HSZ.out _).mono ?_); rintro e w1 ⟨rfl, hA1, hb1⟩))
  obtain ⟨g0, hg0⟩ : ∃ g0, g0 = w.heap.size := ⟨_, rfl⟩
  obtain ⟨g1, hg1⟩ : ∃ g1, g1 = (w.alloc (.cells #[.int .i64 0, .int .i64 0, .int .i64 0, .int .i64 0, .int .i64 0, .int .i64 0, .int .i64 0] 32)).heap.size := ⟨_, rfl⟩
  have hg01 : g1 = g0 + 1 := by rw [hg1, hg0]; simp
  rw [← hg1] at hA1 hb1
  have hA0 : Arr w1 g0 32 [.int .i64 0, .int .i64 0, .int .i64 0, .int .i64 0, .int .i64 0, .int .i64 0, .int .i64 0] := by
    have h := Arr.of_new w 32 #[.int .i64 0, .int .i64 0, .int .i64 0, .int .i64 0, .int .i64 0, .int .i64 0, .int .i64 0]
    rw [← hg0] at h
    exact h.below hb1 (by omega)
  have hB1 : Below w.heap.size w w1 := ((Below.refl w.heap.size w).alloc (Nat.le_refl _) _).trans (hb1.mono (by omega))
  have HA0 := hid hA0
  have HA1 := hid hA1
  have HB1 := hid hB1
  have hl1 := hA1.lt
  have HG1 := hid hg1
  have HG0 := hid hg0
  have HG01 := hid hg01
  rw [show w.heap.size + 1 = g1 from by rw [hg01, hg0], ← hg0]
  clear hA0 hA1 hB1 hb1 hg1 hg0 hg01
  go_wp2_with fail
  go_loopw [6, 11] (fun lv iv wr => ∃ (k : Nat) (js : List Nat), k ≤ 30 ∧ iv = .int .i64 (k : Nat) ∧ js.length ≤ k ∧ Hid (∀ j ∈ js, j < 30 ∧ n + 3 ≤ szf j 4) ∧ Hid (Own7 wr w1.heap.size lv js.length (szFlatOf js)) ∧ Hid (Arr wr g1 32 szVals) ∧ Hid (Arr wr g0 32 [.int .i64 0, .int .i64 0, .int .i64 0, .int .i64 0, .int .i64 0, .int .i64 0, .int .i64 0]) ∧ Hid (Below w.heap.size w wr) ∧ w1.heap.size ≤ wr.heap.size) (fun _ iv _ => 30 - (intOf iv).toNat)
  case atStart => exact ⟨0, [], by omega, rfl, by simp, hid (fun j hj => by cases hj), hid (Own7.nil _ _), HA1, HA0, HB1, Nat.le_refl _⟩
  case round =>
    clear HA0 HA1 HB1
    obtain ⟨k, js, hk1, rfl, hjk, HJ, HO, HA1, HA0, HB, hws⟩ := hrel
    by_cases hlt : k < 30
    case pos =>
      have hlt' : (k : Int) < 30 := by omega
      have c0 := szVals_at HA1.out k 0 hlt (by omega)
      rw [Nat.add_zero] at c0
      have c1 := szVals_at HA1.out k 1 hlt (by omega)
      have c2 := szVals_at HA1.out k 2 hlt (by omega)
      have c3 := szVals_at HA1.out k 3 hlt (by omega)
      have c4 := szVals_at HA1.out k 4 hlt (by omega)
      have c5 := szVals_at HA1.out k 5 hlt (by omega)
      have c6 := szVals_at HA1.out k 6 hlt (by omega)
      have hb4 := szf_le k 4 hlt (by omega)
      have hcl : szCells k = [.int .i64 (szf k 0 : Nat), .int .i64 (szf k 1 : Nat), .int .i64 (szf k 2 : Nat), .int .i64 (szf k 3 : Nat), .int .i64 (szf k 4 : Nat), .int .i64 (szf k 5 : Nat), .int .i64 (szf k 6 : Nat)] := rfl
      have hbs := HB.out.size
      have hsn := szFlatOf_snoc js k
      rw [hcl] at hsn
      have HJK := hid (fun h => show ∀ j ∈ js ++ [k], j < 30 ∧ n + 3 ≤ szf j 4 from fun j hj => by
        rcases List.mem_append.1 hj with h9 | h9
        · exact HJ.out j h9
        · rw [List.mem_singleton.1 h9]; exact ⟨hlt, h⟩)
      generalize szf k 0 = a0 at *
      generalize szf k 1 = a1 at *
      generalize szf k 2 = a2 at *
      generalize szf k 3 = a3 at *
      generalize szf k 4 = a4 at *
      generalize szf k 5 = a5 at *
      generalize szf k 6 = a6 at *
      obtain ⟨M, hM⟩ : ∃ M, M = js.length := ⟨_, rfl⟩
      rw [← hM] at HO hjk
      have HM := hid hM
      have HSN := hid hsn
      have hB2 := hid (HB.out.alloc hbs (.cells #[.int .i64 (a0 : Nat), .int .i64 (a1 : Nat), .int .i64 (a2 : Nat), .int .i64 (a3 : Nat), .int .i64 (a4 : Nat), .int .i64 (a5 : Nat), .int .i64 (a6 : Nat)] 32))
      clear hcl hsn hM
      by_cases hge : n + 3 ≤ a4
      case pos =>
        have hge' : (n : Int) + 3 ≤ (a4 : Int) := by omega
        have HJN := hid (HJK.out hge)
        have hB3 := hid (hB2.out.alloc (by simp; omega) (.cells #[.int .i64 (a0 : Nat), .int .i64 (a1 : Nat), .int .i64 (a2 : Nat), .int .i64 (a3 : Nat), .int .i64 (a4 : Nat), .int .i64 (a5 : Nat), .int .i64 (a6 : Nat)] 32))
        clear HJK
        go_wp2_with (at_builtin; refine wpList_app7 _ rfl _ _ 45 rfl w1.heap.size i7 _ 56 Tryd.underlying45 gi gz0 gz1 gz2 rfl _ M (szFlatOf js) rfl ((HO.out.alloc _).alloc _) ⟨_, 0, none⟩ 1 [.int .i64 (a0 : Nat), .int .i64 (a1 : Nat), .int .i64 (a2 : Nat), .int .i64 (a3 : Nat), .int .i64 (a4 : Nat), .int .i64 (a5 : Nat), .int .i64 (a6 : Nat)] rfl rfl (news_arr [.int .i64 (a0 : Nat), .int .i64 (a1 : Nat), .int .i64 (a2 : Nat), .int .i64 (a3 : Nat), .int .i64 (a4 : Nat), .int .i64 (a5 : Nat), .int .i64 (a6 : Nat)] _ (by simp)) (by intro u hu; simp only [List.mem_cons, List.not_mem_nil, or_false] at hu; rcases hu with rfl | rfl | rfl | rfl | rfl | rfl | rfl <;> rfl) (by simp [maxLen]; omega) (by omega) (by simp; omega) ?_)
        intro v5 w5 hO5 hg5
        have hg01 := HG01.out
        have hne0 : some g0 ≠ Value.ownBlock _ := fun e => by have := (HO.out.lt g0 e.symm).1; omega
        have hne1 : some g1 ≠ Value.ownBlock _ := fun e => by have := (HO.out.lt g1 e.symm).1; omega
        have HO5 := hid (show Own7 w5 w1.heap.size v5 (js ++ [k]).length (szFlatOf (js ++ [k])) from by rw [HSN.out, List.length_append, List.length_singleton, ← HM.out]; exact hO5)
        have HA1' := hid (((HA1.out.alloc _).alloc _).grown hg5 hne1)
        have HA0' := hid (((HA0.out.alloc _).alloc _).grown hg5 hne0)
        have HB5 := hid (hB3.out.grown hg5 (by simp; omega) (fun j hj => by have h1 := (HO.out.lt j hj).1; have h2 := HG0.out; have h3 := HG01.out; omega))
        have hs5 := Nat.le_trans (show w1.heap.size ≤ _ from Nat.le_trans hws (by simp; omega)) hg5.size
        clear hO5 hg5 hne0 hne1 HO HA1 HA0 HB hB2 hB3
        go_wp2_with fail
        go_roundw
        case rel => exact ⟨k + 1, js ++ [k], by omega, by go_num, by rw [List.length_append, List.length_singleton, ← HM.out]; omega, HJN, HO5, HA1', HA0', HB5, hs5⟩
        case measure => simp [intOf]; omega
      case neg =>
        have hge' : ¬ (n : Int) + 3 ≤ (a4 : Int) := by omega
        clear HJK
        go_wp2_with fail
        go_roundw
        case rel => exact ⟨k + 1, js, by omega, by go_num, by rw [← HM.out]; omega, HJ, hid (by rw [← HM.out]; exact HO.out.alloc _), hid (HA1.out.alloc _), hid (HA0.out.alloc _), hB2, by simp; omega⟩
        case measure => simp [intOf]; omega
    case neg =>
      obtain rfl : k = 30 := by omega
      obtain ⟨A9, c9, hv, hcs⟩ := HO.out.form
      subst hv
      have d0 := HA0.out.cell? 0
      have d1 := HA0.out.cell? 1
      have d2 := HA0.out.cell? 2
      have d3 := HA0.out.cell? 3
      have d4 := HA0.out.cell? 4
      have d5 := HA0.out.cell? 5
      have d6 := HA0.out.cell? 6
      have hgb : w.heap.size ≤ g0 := by rw [HG0.out]; exact Nat.le_refl _
      have f0 := HA0.out.frozen 0
      have f1 := HA0.out.frozen 1
      have f2 := HA0.out.frozen 2
      have f3 := HA0.out.frozen 3
      have f4 := HA0.out.frozen 4
      have f5 := HA0.out.frozen 5
      have f6 := HA0.out.frozen 6
      simp only [List.getElem?_cons_zero, List.getElem?_cons_succ] at d0 d1 d2 d3 d4 d5 d6
      obtain ⟨M, hM⟩ : ∃ M, M = js.length := ⟨_, rfl⟩
      rw [← hM] at HO hjk hcs ⊢
      have HM := hid hM
      have HCS := hid hcs
      clear hM hcs
      by_cases h0 : M = 0
      case pos =>
        subst h0
        go_wp2_with fail
        have q0 := (HA0.out.set 0 (Value.int .i64 0)).cell? 0
        have q1 := ((HA0.out.set 0 (Value.int .i64 0)).set 1 (Value.int .i64 0)).cell? 1
        have q2 := (((HA0.out.set 0 (Value.int .i64 0)).set 1 (Value.int .i64 0)).set 2 (Value.int .i64 0)).cell? 2
        have q3 := ((((HA0.out.set 0 (Value.int .i64 0)).set 1 (Value.int .i64 0)).set 2 (Value.int .i64 0)).set 3 (Value.int .i64 0)).cell? 3
        have q4 := (((((HA0.out.set 0 (Value.int .i64 0)).set 1 (Value.int .i64 0)).set 2 (Value.int .i64 0)).set 3 (Value.int .i64 0)).set 4 (Value.int .i64 0)).cell? 4
        have q5 := ((((((HA0.out.set 0 (Value.int .i64 0)).set 1 (Value.int .i64 0)).set 2 (Value.int .i64 0)).set 3 (Value.int .i64 0)).set 4 (Value.int .i64 0)).set 5 (Value.int .i64 0)).cell? 5
        have q6 := (((((((HA0.out.set 0 (Value.int .i64 0)).set 1 (Value.int .i64 0)).set 2 (Value.int .i64 0)).set 3 (Value.int .i64 0)).set 4 (Value.int .i64 0)).set 5 (Value.int .i64 0)).set 6 (Value.int .i64 0)).cell? 6
        simp only [List.set_cons_zero, List.set_cons_succ, List.getElem?_cons_zero, List.getElem?_cons_succ] at q0 q1 q2 q3 q4 q5 q6
        refine bodyPost_ret (v := .tuple #[.agg #[.int .i64 0, .int .i64 0, .int .i64 0, .int .i64 0, .int .i64 0, .int .i64 0, .int .i64 0], .bool false]) (by simp [results, Tryd.results9, go_sem, q0, q1, q2, q3, q4, q5, q6]) rfl ?_
        exact ⟨.inl rfl, (((((((HB.out.setCell hgb _).setCell hgb _).setCell hgb _).setCell hgb _).setCell hgb _).setCell hgb _).setCell hgb _)⟩
      case neg =>
        have h0' : ((M : Int) == 0) = false := by simp; omega
        by_cases hz : z < 0
        case pos =>
          go_wp2_with fail
          have q0 := (HA0.out.set 0 (Value.int .i64 0)).cell? 0
          have q1 := ((HA0.out.set 0 (Value.int .i64 0)).set 1 (Value.int .i64 0)).cell? 1
          have q2 := (((HA0.out.set 0 (Value.int .i64 0)).set 1 (Value.int .i64 0)).set 2 (Value.int .i64 0)).cell? 2
          have q3 := ((((HA0.out.set 0 (Value.int .i64 0)).set 1 (Value.int .i64 0)).set 2 (Value.int .i64 0)).set 3 (Value.int .i64 0)).cell? 3
          have q4 := (((((HA0.out.set 0 (Value.int .i64 0)).set 1 (Value.int .i64 0)).set 2 (Value.int .i64 0)).set 3 (Value.int .i64 0)).set 4 (Value.int .i64 0)).cell? 4
          have q5 := ((((((HA0.out.set 0 (Value.int .i64 0)).set 1 (Value.int .i64 0)).set 2 (Value.int .i64 0)).set 3 (Value.int .i64 0)).set 4 (Value.int .i64 0)).set 5 (Value.int .i64 0)).cell? 5
          have q6 := (((((((HA0.out.set 0 (Value.int .i64 0)).set 1 (Value.int .i64 0)).set 2 (Value.int .i64 0)).set 3 (Value.int .i64 0)).set 4 (Value.int .i64 0)).set 5 (Value.int .i64 0)).set 6 (Value.int .i64 0)).cell? 6
          simp only [List.set_cons_zero, List.set_cons_succ, List.getElem?_cons_zero, List.getElem?_cons_succ] at q0 q1 q2 q3 q4 q5 q6
          refine bodyPost_ret (v := .tuple #[.agg #[.int .i64 0, .int .i64 0, .int .i64 0, .int .i64 0, .int .i64 0, .int .i64 0, .int .i64 0], .bool false]) (by simp [results, Tryd.results9, go_sem, q0, q1, q2, q3, q4, q5, q6]) rfl ?_
          exact ⟨.inl rfl, (((((((HB.out.setCell hgb _).setCell hgb _).setCell hgb _).setCell hgb _).setCell hgb _).setCell hgb _).setCell hgb _)⟩
        case neg =>
          obtain ⟨q, rfl⟩ : ∃ q : Nat, z = (q : Nat) := ⟨z.toNat, by omega⟩
          obtain ⟨g, hA, hg1, hg2, hc⟩ := HCS.out (by omega)
          subst hA
          have hqm : q % M < M := Nat.mod_lt _ (by omega)
          have hat := fun f (hf : f < 7) => szFlatOf_at js (q % M) f (by rw [← HM.out]; exact hqm) hf
          have hcx : ∀ f, f < 7 → wr.cell? ⟨g, q % M * 7 + f, none⟩ = some (.int .i64 (szf (js.getD (q % M) 0) f : Nat)) := fun f hf => by
            have h1 := hat f hf
            obtain ⟨h2, h3⟩ := List.getElem?_eq_some_iff.1 h1
            rw [hc _ h2, h3]
          have x0 := hcx 0 (by omega)
          rw [Nat.add_zero] at x0
          have x1 := hcx 1 (by omega)
          have x2 := hcx 2 (by omega)
          have x3 := hcx 3 (by omega)
          have x4 := hcx 4 (by omega)
          have x5 := hcx 5 (by omega)
          have x6 := hcx 6 (by omega)
          have HJQ := hid (HJ.out (js.getD (q % M) 0) (by rw [List.getD, List.getElem?_eq_getElem (by rw [← HM.out]; exact hqm)]; exact List.getElem_mem _))
          generalize js.getD (q % M) 0 = K at *
          have eq : (q : Int) % (M : Int) = ((q % M : Nat) : Int) := by omega
          generalize q % M = r at *
          have hsz : szAgg K = .agg #[.int .i64 (szf K 0 : Nat), .int .i64 (szf K 1 : Nat), .int .i64 (szf K 2 : Nat), .int .i64 (szf K 3 : Nat), .int .i64 (szf K 4 : Nat), .int .i64 (szf K 5 : Nat), .int .i64 (szf K 6 : Nat)] := rfl
          have HSZ2 := hid hsz
          clear hat hcx hc hsz
          generalize szf K 0 = a0 at *
          generalize szf K 1 = a1 at *
          generalize szf K 2 = a2 at *
          generalize szf K 3 = a3 at *
          generalize hK4 : szf K 4 = a4 at *
          generalize szf K 5 = a5 at *
          generalize szf K 6 = a6 at *
          have hr' : (r : Int) < (M : Int) := by omega
          have hz' : ¬ (q : Int) < 0 := by omega
          go_wp2_with fail
          have q0 := (HA0.out.set 0 (Value.int .i64 (a0 : Nat))).cell? 0
          have q1 := ((HA0.out.set 0 (Value.int .i64 (a0 : Nat))).set 1 (Value.int .i64 (a1 : Nat))).cell? 1
          have q2 := (((HA0.out.set 0 (Value.int .i64 (a0 : Nat))).set 1 (Value.int .i64 (a1 : Nat))).set 2 (Value.int .i64 (a2 : Nat))).cell? 2
          have q3 := ((((HA0.out.set 0 (Value.int .i64 (a0 : Nat))).set 1 (Value.int .i64 (a1 : Nat))).set 2 (Value.int .i64 (a2 : Nat))).set 3 (Value.int .i64 (a3 : Nat))).cell? 3
          have q4 := (((((HA0.out.set 0 (Value.int .i64 (a0 : Nat))).set 1 (Value.int .i64 (a1 : Nat))).set 2 (Value.int .i64 (a2 : Nat))).set 3 (Value.int .i64 (a3 : Nat))).set 4 (Value.int .i64 (a4 : Nat))).cell? 4
          have q5 := ((((((HA0.out.set 0 (Value.int .i64 (a0 : Nat))).set 1 (Value.int .i64 (a1 : Nat))).set 2 (Value.int .i64 (a2 : Nat))).set 3 (Value.int .i64 (a3 : Nat))).set 4 (Value.int .i64 (a4 : Nat))).set 5 (Value.int .i64 (a5 : Nat))).cell? 5
          have q6 := (((((((HA0.out.set 0 (Value.int .i64 (a0 : Nat))).set 1 (Value.int .i64 (a1 : Nat))).set 2 (Value.int .i64 (a2 : Nat))).set 3 (Value.int .i64 (a3 : Nat))).set 4 (Value.int .i64 (a4 : Nat))).set 5 (Value.int .i64 (a5 : Nat))).set 6 (Value.int .i64 (a6 : Nat))).cell? 6
          simp only [List.set_cons_zero, List.set_cons_succ, List.getElem?_cons_zero, List.getElem?_cons_succ] at q0 q1 q2 q3 q4 q5 q6
          refine bodyPost_ret (v := .tuple #[.agg #[.int .i64 (a0 : Nat), .int .i64 (a1 : Nat), .int .i64 (a2 : Nat), .int .i64 (a3 : Nat), .int .i64 (a4 : Nat), .int .i64 (a5 : Nat), .int .i64 (a6 : Nat)], .bool true]) (by simp [results, Tryd.results9, go_sem, q0, q1, q2, q3, q4, q5, q6]) rfl ?_
          rw [← HSZ2.out]
          exact ⟨.inr ⟨K, HJQ.out.1, by rw [hK4]; exact HJQ.out.2, rfl⟩, (((((((HB.out.setCell hgb _).setCell hgb _).setCell hgb _).setCell hgb _).setCell hgb _).setCell hgb _).setCell hgb _)⟩
end Go.Proofs.YtfmjkflihnfneaaDoor
