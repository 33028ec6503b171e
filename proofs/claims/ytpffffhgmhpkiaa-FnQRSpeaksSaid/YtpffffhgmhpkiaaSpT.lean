/- QR codes: laws.qrSegments. Printed by gen_t.py. -/
import Derived.Test.YtpffffhgmhpkiaaSpS
import Derived.Test.YtpffffhgmhpkiaaSpQ
import Derived.Test.YtpffffhgmhpkiaaSpG
namespace Go.Proofs.Ytpffffhgmhpkiaa
open Go.RowKit
set_option linter.unusedVariables false
set_option linter.unusedSimpArgs false

theorem info97 : (Try.prog.info? 97).map (fun i => (i.zero, i.size, i.bytes)) = some (some (.agg #[.int .i64 0, .slice none 0 0]), 2, 32) := by kernel_rfl
theorem info_of2' {t : TypeId} {z : Value} {b : Nat} (h : (Try.prog.info? t).map (fun i => (i.zero, i.size, i.bytes)) = some (some z, 2, b)) : ∃ i, Try.prog.info? t = some i ∧ i.zero = some z ∧ i.size = 2 ∧ i.bytes = b := by
  cases hi : Try.prog.info? t with
  | none => rw [hi] at h; simp at h
  | some i =>
    rw [hi] at h
    simp only [Option.map_some, Option.some.injEq, Prod.mk.injEq] at h
    exact ⟨i, rfl, h.1, h.2.1, h.2.2⟩
section
variable {P : Program} {ops : Array Oper} {o : Oper} {a : Act}
/-- append of one element of two cells. -/
theorem wpList_appE (w : World) {rest : List Oper} {Q : Exit → Act → World → Prop} (hgd : o.guard = none) (s x : Operand) (t : TypeId)
    (ho : o.op = .call { callee := .builtin .append, args := #[s, x], argTypes := #[t, t] })
    (B : Nat) (E : TypeId) (i : TypeInfo) (z : Value) (bytes : Nat) (ht : P.underlying t = some (.slice E)) (hi : P.info? E = some i) (hz : i.zero = some z)
    (hsize : i.size = 2) (hby : i.bytes = bytes) (hzs : z.cells.size = 2) (v : Value) (n : Nat) (xs : List Value) (hs : a.eval s = v) (hown : w.ownsRow B E 2 v n xs)
    (ad : Addr) (c : Nat) (news : List Value) (hx : a.eval x = .slice (some ad) 1 c) (hl : news.length = 2) (hr : ∀ j u, news[j]? = some u → w.cell? (ad.add j) = some u) (h1 : ∀ u ∈ news, u.oneCell' = true)
    (h63 : n + 1 ≤ maxLen) (hbytes : (n + 1) * bytes ≤ 140737488355328) (hB : B ≤ w.heap.size)
    (h : ∀ v' w', w'.ownsRow B E 2 v' (n + 1) (xs ++ news) → w.grownBy w' v.ownBlock → (v'.ownBlock = v.ownBlock ∨ v'.ownBlock = some w.heap.size) → wpList P ops Q rest (a.put o.dst v') w') : wpList P ops Q (o :: rest) a w :=
  wpList_plain hgd fun _ hK => by
    obtain ⟨v', w', hrun, h2, h3, _, h5⟩ := run_append_own_at (P := P) w B t o.type E i z 2 bytes ht hi hz hsize hby hzs (by omega) v n xs hown ad 1 c news (by omega) hr h1 h63 hbytes hB
    unfold Oper.wp execOp
    simp only [ho, resolve, invoke, builtin, Sem.run_bind, Sem.run_pure, Result.andThen_ok, List.map_toArray, List.map_cons, List.map_nil, hs, hx, hrun]
    exact hK _ _ (h v' w' h2 h3 h5)
end
theorem cell_twoE (w : World) (x y : Value) (t : TypeId) (g : Nat) (hg : g = w.heap.size) : ∀ j u, [x, y][j]? = some u → (w.alloc (.cells #[x, y] t)).cell? ((⟨g, 0, none⟩ : Addr).add j) = some u := by
  subst hg
  intro j u hj
  match j, hj with
  | 0, hj => simp at hj; subst hj; simp [Addr.add]
  | 1, hj => simp at hj; subst hj; simp [Addr.add]
/-- Segments and their slices, flat. -/
def flatT : List (Nat × List Nat) → List Value → List Value
  | x :: T, y :: ys => .int .i64 (x.1 : Nat) :: y :: flatT T ys
  | _, _ => []
theorem flatT_app : ∀ (T : List (Nat × List Nat)) (ys : List Value) (x : Nat × List Nat) (y : Value), ys.length = T.length → flatT (T ++ [x]) (ys ++ [y]) = flatT T ys ++ [.int .i64 (x.1 : Nat), y]
  | [], [], x, y, _ => rfl
  | t :: T, z :: ys, x, y, h => by simp [flatT, flatT_app T ys x y (by simpa using h)]
theorem flatT_len : ∀ (T : List (Nat × List Nat)) (ys : List Value), ys.length = T.length → (flatT T ys).length = 2 * T.length
  | [], [], _ => rfl
  | t :: T, z :: ys, h => by simp [flatT, flatT_len T ys (by simpa using h)]; omega
theorem flatT_at : ∀ (T : List (Nat × List Nat)) (ys : List Value) (i : Nat), ys.length = T.length → i < T.length → (flatT T ys)[i * 2]? = some (.int .i64 ((T.getD i (0, [])).1 : Nat)) ∧ (flatT T ys)[i * 2 + 1]? = ys[i]?
  | t :: T, z :: ys, 0, h, hi => by simp [flatT]
  | t :: T, z :: ys, i + 1, h, hi => by
    obtain ⟨a, b⟩ := flatT_at T ys i (by simpa using h) (by simpa using hi)
    rw [show (i + 1) * 2 = i * 2 + 1 + 1 by omega]
    simp only [flatT, List.getElem?_cons_succ]
    exact ⟨by rw [a]; rfl, b⟩
/-- The segments that have been made. -/
def SegsSt (w : World) (B : Nat) (ov : Value) (T : List (Nat × List Nat)) : Prop :=
  ∃ ys : List Value, w.ownsRow B 97 2 ov T.length (flatT T ys) ∧ ys.length = T.length ∧ ∀ i, i < T.length → ∃ R c, ys[i]? = some (.slice R (T.getD i (0, [])).2.length c) ∧ (T.getD i (0, [])).2.length ≤ c ∧
    Rd w R (T.getD i (0, [])).2.length (u8s (T.getD i (0, [])).2) ∧ (0 < (T.getD i (0, [])).2.length → ∀ a, R = some a → ov.ownBlock ≠ some a.block)
theorem SegsSt.form {w : World} {B : Nat} {ov : Value} {T : List (Nat × List Nat)} (h : SegsSt w B ov T) : ∃ A c, ov = .slice A T.length c := by
  obtain ⟨ys, h1, _⟩ := h
  rcases h1.2 with ⟨e, e2⟩ | ⟨g, cap, cur, e, _⟩
  · exact ⟨none, 0, by rw [e, e2]⟩
  · exact ⟨_, _, e⟩
theorem SegsSt.seg {w : World} {B : Nat} {A : Option Addr} {n c : Nat} {T : List (Nat × List Nat)} (h : SegsSt w B (.slice A n c) T) (hn : n = T.length) : SegM w A n T := by
  subst hn
  obtain ⟨ys, h1, h2, h3⟩ := h
  refine ⟨rfl, fun hn => ?_⟩
  have hx := flatT_len T ys h2
  rcases h1.2 with ⟨e, e2⟩ | ⟨g, cap, cur, e, hg, hh, r⟩
  · omega
  · injection e with e1 e2 e3
    subst e1
    refine ⟨g, 0, rfl, ?_, fun k hk => ?_⟩
    · rcases Nat.lt_or_ge g w.heap.size with hl | hl
      · exact hl
      · rw [Array.getElem?_eq_none hl] at hh; cases hh
    · obtain ⟨R, c', a1, a2, a3, _⟩ := h3 k hk
      obtain ⟨f1, f2⟩ := flatT_at T ys k h2 hk
      have cl : ∀ (j : Nat) (u : Value), (flatT T ys)[j]? = some u → w.cell? ⟨g, j, none⟩ = some u := fun j u hu => by
        have hj : j < T.length * 2 := by have := (List.getElem?_eq_some_iff.1 hu).1; omega
        rw [h1.cellAt j hj, hu]
      exact ⟨R, c', a2, by rw [Nat.zero_add]; exact cl _ _ f1, by rw [Nat.zero_add]; exact cl _ _ (by rw [f2, a1]), a3⟩
theorem getD_app1 (T : List (Nat × List Nat)) (x : Nat × List Nat) (i : Nat) (h : i < T.length) : (T ++ [x]).getD i (0, []) = T.getD i (0, []) := by
  rw [List.getD, List.getElem?_append_left h]; rfl
theorem getD_app2 (T : List (Nat × List Nat)) (x : Nat × List Nat) : (T ++ [x]).getD T.length (0, []) = x := by
  rw [List.getD, List.getElem?_append_right (Nat.le_refl _), Nat.sub_self]; rfl
theorem SegsSt.app {wr w5 w7 : World} {B : Nat} {ov v7 : Value} {T : List (Nat × List Nat)} {md : Nat} {s : List Nat} {R : Option Addr} {c' : Nat} {ys : List Value} {O : Obj}
    (h1 : wr.ownsRow B 97 2 ov T.length (flatT T ys)) (h2 : ys.length = T.length) (h3 : ∀ i, i < T.length → ∃ R c, ys[i]? = some (.slice R (T.getD i (0, [])).2.length c) ∧ (T.getD i (0, [])).2.length ≤ c ∧
      Rd wr R (T.getD i (0, [])).2.length (u8s (T.getD i (0, [])).2) ∧ (0 < (T.getD i (0, [])).2.length → ∀ a, R = some a → ov.ownBlock ≠ some a.block))
    (hk : ∀ g, g < wr.heap.size → w5.heap[g]? = wr.heap[g]?) (hs : wr.heap.size ≤ w5.heap.size) (hR : Rd w5 R s.length (u8s s)) (hc : s.length ≤ c') (hRb : 0 < s.length → ∀ a, R = some a → wr.heap.size ≤ a.block)
    (hO7 : w7.ownsRow B 97 2 v7 (T.length + 1) (flatT T ys ++ [.int .i64 (md : Nat), .slice R s.length c'])) (hg7 : (w5.alloc O).grownBy w7 ov.ownBlock) (ho7 : v7.ownBlock = ov.ownBlock ∨ v7.ownBlock = some (w5.alloc O).heap.size) :
    SegsSt w7 B v7 (T ++ [(md, s)]) := by
  have lo := World.ownsRow.lt h1
  have v7n : ∀ g, g < w5.heap.size → ov.ownBlock ≠ some g → v7.ownBlock ≠ some g := fun g a b => by
    rcases ho7 with e | e
    · rw [e]; exact b
    · rw [e]; intro h3; injection h3 with h3; simp only [World.size_alloc] at h3; omega
  have rdb : ∀ {V : World} {A : Option Addr} {n : Nat} {l : List Value}, Rd V A n l → 0 < n → ∀ a, A = some a → a.block < V.heap.size := fun h h0 a ha => by
    obtain ⟨b, o, e, hb, _⟩ := h.2 h0
    rw [e] at ha; injection ha with ha; subst ha; exact hb
  refine ⟨ys ++ [.slice R s.length c'], by rw [flatT_app T ys (md, s) _ h2, List.length_append, List.length_singleton]; exact hO7, by simp [h2], fun i hi => ?_⟩
  by_cases hlt : i < T.length
  · rw [getD_app1 T _ i hlt]
    obtain ⟨R', cc, a1, a2, a3, a4⟩ := h3 i hlt
    have a5 : Rd w5 R' (T.getD i (0, [])).2.length (u8s (T.getD i (0, [])).2) := a3.keep hs (fun b o hb => World.cell?_of_block (w := wr) (hk b hb))
    refine ⟨R', cc, by rw [List.getElem?_append_left (by omega)]; exact a1, a2, (a5.alloc O).grow0 hg7 (fun h0 a ha e => a4 h0 a ha e.symm), fun h0 a ha => v7n _ (rdb a5 h0 a ha) (a4 h0 a ha)⟩
  · obtain rfl : i = T.length := by simp at hi; omega
    rw [getD_app2]
    have n7 : 0 < s.length → ∀ a, R = some a → ov.ownBlock ≠ some a.block := fun h0 a ha e => by have := (lo a.block e).2; have := hRb h0 a ha; omega
    exact ⟨R, c', by rw [← h2, List.getElem?_append_right (Nat.le_refl _), Nat.sub_self]; rfl, hc, (hR.alloc O).grow0 hg7 (fun h0 a ha e => n7 h0 a ha e.symm), fun h0 a ha => v7n _ (rdb hR h0 a ha) (n7 h0 a ha)⟩
/-- What a byte becomes in a segment of a mode. -/
def turn (md b : Nat) : Nat := if md = 1 then 48 + b % 10 else if md = 2 then alphL.getD (b % 45) 0 else 32 + b % 95
def turned (md : Nat) (s : List Nat) : List Nat := (s.take 200).map (turn md)
theorem alph_ok : ∀ n, n < 45 → 32 ≤ alphL.getD n 0 ∧ alphL.getD n 0 ≤ 126 ∧ alph (alphL.getD n 0) = n := by decide +kernel
theorem turned_ok (md : Nat) (s : List Nat) (h : IsMode md) : SegOk (md, turned md s) ∧ Prn (turned md s) := by
  have hp : Prn (turned md s) := fun c hc => by
    obtain ⟨b, _, rfl⟩ := List.mem_map.1 hc
    rcases h with rfl | rfl | rfl
    · simp only [turn, if_true]; omega
    · simp only [turn, if_true]; exact ⟨(alph_ok _ (Nat.mod_lt _ (by omega))).1, (alph_ok _ (Nat.mod_lt _ (by omega))).2.1⟩
    · simp [turn]; omega
  refine ⟨⟨h, fun e => ?_, fun e => ?_, fun c hc => by have := hp c hc; omega, by simp [turned]; omega⟩, hp⟩
  · dsimp only at e; subst e
    intro c hc
    obtain ⟨b, _, rfl⟩ := List.mem_map.1 hc
    simp only [turn, if_true]; omega
  · dsimp only at e; subst e
    intro c hc
    obtain ⟨b, _, rfl⟩ := List.mem_map.1 hc
    have := alph_ok (b % 45) (Nat.mod_lt _ (by omega))
    have e : turn 2 b = alphL.getD (b % 45) 0 := rfl
    rw [e]
    exact ⟨by omega, by rw [this.2.2]; exact Nat.mod_lt _ (by omega)⟩
theorem turned_take (md : Nat) (s : List Nat) (j : Nat) (h : j < s.length) (h2 : j < 200) : (turned md s).take (j + 1) = (turned md s).take j ++ [turn md (s.getD j 0)] := by
  have hl : j < (turned md s).length := by simp [turned]; omega
  rw [List.take_succ_eq_append_getElem hl]
  congr 2
  simp [turned, List.getD, List.getElem?_eq_getElem h]
end Go.Proofs.Ytpffffhgmhpkiaa
