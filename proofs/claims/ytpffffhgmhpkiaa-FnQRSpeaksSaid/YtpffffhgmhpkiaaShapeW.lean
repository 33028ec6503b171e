/- impl.QRShape: the numbers of a version's level. -/
import Derived.Test.YtpffffhgmhpkiaaVerAll
import Derived.Deep.DrawnRows
namespace Go.Proofs.Ytpffffhgmhpkiaa
open Go.RowKit
set_option linter.unusedVariables false

/-- The slice value v owns n pairs, their cells xs. -/
def Own2 (w : World) (B : Nat) (v : Value) (n : Nat) (xs : List Value) : Prop := w.ownsRow B 78 2 v n xs
section
variable {w w' : World} {A : Option Addr} {B n : Nat} {v : Value} {xs : List Value}
theorem Own2.nil (w : World) (B : Nat) : Own2 w B (.slice none 0 0) 0 [] := World.ownsRow_nil _ _ _ _
theorem Own2.alloc (h : Own2 w B v n xs) (o : Obj) : Own2 (w.alloc o) B v n xs := World.ownsRow.alloc h o
theorem Own2.drew (h : Own2 w B v n xs) : Own2 w.drew B v n xs := h
theorem Own2.drewN (h : Own2 w B v n xs) (k : Nat) : Own2 (w.drewN k) B v n xs := h
theorem Own2.lt (h : Own2 w B v n xs) (k : Nat) (hk : v.ownBlock = some k) : B ≤ k ∧ k < w.heap.size := World.ownsRow.lt h k hk
theorem Own2.below {C : Nat} (h : Own2 w B v n xs) (hb : Below C w w') (hC : ∀ k, v.ownBlock = some k → k < C) : Own2 w' B v n xs := by
  refine ⟨h.1, ?_⟩
  rcases h.2 with h2 | ⟨g, cap, cur, hv, hg, hh, r⟩
  · exact .inl h2
  · exact .inr ⟨g, cap, cur, hv, hg, by rw [hb.block g (hC g (by rw [hv]; rfl))]; exact hh, r⟩
/-- The pairs, read. -/
def Rd2 (w : World) (A : Option Addr) (n : Nat) (xs : List Value) : Prop := xs.length = 2 * n ∧ (0 < n → ∃ g, A = some ⟨g, 0, none⟩ ∧ g < w.heap.size ∧ ∀ k (h : k < xs.length), w.cell? ⟨g, k, none⟩ = some xs[k])
theorem Rd2.below (h : Rd2 w A n xs) (hb : Below w.heap.size w w') : Rd2 w' A n xs :=
  ⟨h.1, fun hn => by
    obtain ⟨g, e, hl, hc⟩ := h.2 hn
    exact ⟨g, e, Nat.lt_of_lt_of_le hl hb.size, fun k hk => (hb.cell (p := ⟨g, k, none⟩) hl).trans (hc k hk)⟩⟩
theorem Own2.form (h : Own2 w B v n xs) : ∃ A c, v = .slice A n c ∧ Rd2 w A n xs := by
  have hl : xs.length = 2 * n := by rw [h.1, Nat.mul_comm]
  rcases h.2 with ⟨rfl, rfl⟩ | ⟨g, cap, cur, rfl, _, hg, hnc, _, hcs, ht⟩
  · exact ⟨none, 0, rfl, hl, fun hn => absurd hn (by omega)⟩
  · refine ⟨_, _, rfl, hl, fun hn => ⟨g, rfl, ?_, fun k hk => ?_⟩⟩
    · rcases Nat.lt_or_ge g w.heap.size with hl | hl
      · exact hl
      · rw [Array.getElem?_eq_none hl] at hg; cases hg
    · have := h.cells (g := g) rfl k xs[k] (List.getElem?_eq_getElem hk)
      unfold Addr.add at this
      by_cases hk0 : k = 0
      · subst hk0; simpa using this
      · simpa [hk0] using this
end

section
variable {P : Program} {ops : Array Oper} {o : Oper} {a : Act}
theorem cell_two_new (w : World) (x y : Value) (t : TypeId) : ∀ j u, [x, y][j]? = some u → (w.alloc (.cells #[x, y] t)).cell? ((⟨w.heap.size, 0, none⟩ : Addr).add j) = some u := by
  intro j u hj
  match j, hj with
  | 0, hj => simp at hj; subst hj; simp [Addr.add]
  | 1, hj => simp at hj; subst hj; simp [Addr.add]
theorem cell_two_at (w : World) (g : Nat) (x y : Value) (t : TypeId) (hg : g = w.heap.size) : ∀ j u, [x, y][j]? = some u → (w.alloc (.cells #[x, y] t)).cell? ((⟨g, 0, none⟩ : Addr).add j) = some u := by
  subst hg
  exact cell_two_new w x y t
/-- append of one pair, in a region that draws. -/
theorem step_app2 (w : World) {K : Act → World → Prop} {Q : Exit → Act → World → Prop} {E : Prop} (hgd : o.guard = none) (s x : Operand) (t : TypeId)
    (ho : o.op = .call { callee := .builtin .append, args := #[s, x], argTypes := #[t, t] })
    (B : Nat) (i : TypeInfo) (z : Value) (bytes : Nat) (ht : P.underlying t = some (.slice 78)) (hi : P.info? 78 = some i) (hz : i.zero = some z)
    (hsize : i.size = 2) (hby : i.bytes = bytes) (hzs : z.cells.size = 2) (v : Value) (n : Nat) (xs : List Value) (hs : a.eval s = v) (hown : Own2 w B v n xs)
    (ad : Addr) (c : Nat) (news : List Value) (hx : a.eval x = .slice (some ad) 1 c) (hl : news.length = 2) (hr : ∀ j u, news[j]? = some u → w.cell? (ad.add j) = some u) (h1 : ∀ u ∈ news, u.oneCell' = true)
    (h63 : n + 1 ≤ maxLen) (hbytes : (n + 1) * bytes ≤ 140737488355328) (hB : B ≤ w.heap.size)
    (h : ∀ v' w', Own2 w' B v' (n + 1) (xs ++ news) → w.grownBy w' v.ownBlock → K (a.put o.dst v') w') :
    if Region.wanted o (yielded ops a.tmps) = true then Oper.wp P o a w K Q else E := by
  rw [if_pos (by simp [Region.wanted, hgd])]
  obtain ⟨v', w', hrun, h2, h3, _, _⟩ := run_append_own_at (P := P) w B t o.type 78 i z 2 bytes ht hi hz hsize hby hzs (by omega) v n xs hown ad 1 c news (by omega) hr h1 h63 hbytes hB
  unfold Oper.wp execOp
  simp only [ho, resolve, invoke, builtin, Sem.run_bind, Sem.run_pure, Result.andThen_ok, List.map_toArray, List.map_cons, List.map_nil, hs, hx, hrun]
  exact h v' w' h2 h3
end

/-- A version, and no error. -/
def GotVer (v : Nat) (T : VRow) (w : World) (e : Ending) (w' : World) : Prop :=
  ∃ q, e = .returned (.tuple #[.pointer (some ⟨q, 0, none⟩), Value.nilIface]) ∧ IsVer w' q v T ∧ Below w.heap.size w w'
set_option maxRecDepth 20000 in
theorem getVer (v : Nat) (h1 : 1 ≤ v) (h2 : v ≤ 40) (w : World) : Calls Try.prog 51 #[.int .i64 v] w (GotVer v (vrow v) w) := by
  have hv := versionOf v h1 h2 w
  generalize vrow v = T at *
  have l1 : ¬ (v : Int) < 1 := by omega
  have l2 : ¬ (40 : Int) < (v : Int) := by omega
  go_enter Try.func51, Try.ntmps51
  go_wp2_with fail
  refine hv.mono ?_
  rintro e w1 ⟨q, rfl, hI, hb⟩
  have HI := hid hI
  have HB := hid hb
  clear hI hb hv
  go_wp2_with fail
  go_ret2
  exact ⟨q, rfl, HI.out, HB.out⟩

theorem info_of1 {t : TypeId} {z : Value} {b : Nat} (h : (Try.prog.info? t).map (fun i => (i.zero, i.size, i.bytes)) = some (some z, 1, b)) : ∃ i, Try.prog.info? t = some i ∧ i.zero = some z ∧ i.size = 1 ∧ i.bytes = b := by
  cases hi : Try.prog.info? t with
  | none => rw [hi] at h; simp at h
  | some i =>
    rw [hi] at h
    simp only [Option.map_some, Option.some.injEq, Prod.mk.injEq] at h
    exact ⟨i, rfl, h.1, h.2.1, h.2.2⟩
theorem info_of2 {t : TypeId} {z : Value} {b : Nat} (h : (Try.prog.info? t).map (fun i => (i.zero, i.size, i.bytes)) = some (some z, 2, b)) : ∃ i, Try.prog.info? t = some i ∧ i.zero = some z ∧ i.size = 2 ∧ i.bytes = b := by
  cases hi : Try.prog.info? t with
  | none => rw [hi] at h; simp at h
  | some i =>
    rw [hi] at h
    simp only [Option.map_some, Option.some.injEq, Prod.mk.injEq] at h
    exact ⟨i, rfl, h.1, h.2.1, h.2.2⟩
theorem info78 : (Try.prog.info? 78).map (fun i => (i.zero, i.size, i.bytes)) = some (some (.agg #[.int .i64 0, .int .i64 0]), 2, 16) := by kernel_rfl

theorem keep2_alloc {w' : World} {g : Nat} {v1 v2 : Value} (h : w'.cell? ⟨g, 0, none⟩ = some v1 ∧ w'.cell? ⟨g, 1, none⟩ = some v2 ∧ g < w'.heap.size) (o : Obj) :
    (w'.alloc o).cell? ⟨g, 0, none⟩ = some v1 ∧ (w'.alloc o).cell? ⟨g, 1, none⟩ = some v2 ∧ g < (w'.alloc o).heap.size :=
  have hb : Below w'.heap.size w' (w'.alloc o) := (Below.refl _ _).alloc (Nat.le_refl _) _
  ⟨(hb.cell (p := ⟨g, 0, none⟩) h.2.2).trans h.1, (hb.cell (p := ⟨g, 1, none⟩) h.2.2).trans h.2.1, Nat.lt_of_lt_of_le h.2.2 hb.size⟩
theorem keep2_grown {w' w2 : World} {g : Nat} {row : Option Nat} {v1 v2 : Value} (h : w'.cell? ⟨g, 0, none⟩ = some v1 ∧ w'.cell? ⟨g, 1, none⟩ = some v2 ∧ g < w'.heap.size) (hg : w'.grownBy w2 row) (hne : some g ≠ row) :
    w2.cell? ⟨g, 0, none⟩ = some v1 ∧ w2.cell? ⟨g, 1, none⟩ = some v2 ∧ g < w2.heap.size := by
  have e := hg.block g h.2.2 hne
  refine ⟨?_, ?_, Nat.lt_of_lt_of_le h.2.2 hg.size⟩
  · have := h.1; unfold World.cell? at this ⊢; rw [e]; exact this
  · have := h.2.1; unfold World.cell? at this ⊢; rw [e]; exact this
theorem flatB_app : ∀ (a b : List (Nat × Nat)), flatB (a ++ b) = flatB a ++ flatB b
  | [], b => rfl
  | (x, y) :: a, b => by simp [flatB, flatB_app a b]
theorem flatB_succ (l : List (Nat × Nat)) (i : Nat) (h : i < l.length) : flatB (l.take i) ++ [.int .i64 ((l.getD i (0, 0)).1 : Nat), .int .i64 ((l.getD i (0, 0)).2 : Nat)] = flatB (l.take (i + 1)) := by
  rw [List.take_add_one, flatB_app, List.getElem?_eq_getElem h]
  simp [flatB, List.getD, List.getElem?_eq_getElem h]
end Go.Proofs.Ytpffffhgmhpkiaa
