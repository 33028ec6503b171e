/- QR codes: FnRQJoins: words for processStructuredAppend. -/
import Derived.Test.YtpffffhgmhpkiaaJnH
import Derived.Laws.BytesArg
import Derived.Lib.ConvBytes
import Derived.Lib.SmallJoins
import Derived.StillTailTactics
namespace Go.Proofs.Ytpffffhgmhpkiaa
open Go.RowKit Go.ChangeMaps Go.MapKept
set_option linter.unusedVariables false
set_option linter.unusedSimpArgs false

theorem prs_inj {a b : Option Value} {s : Option Int} (h : prs a s = prs b s) : a = b := by
  have h2 := List.append_cancel_right h
  cases a <;> cases b <;> simp at h2 ⊢
  exact h2
theorem arr_inj {w : World} {p : Nat} {t : TypeId} {a b : List Value} (h : Arr w p t a) (k : Arr w p t b) : a = b := by
  unfold Arr at h k
  rw [h] at k
  simp only [Option.some.injEq, Obj.cells.injEq] at k
  have := congrArg Array.toList k.1
  simpa using this
/-- A result's parts, which stay. -/
theorem ResAt.fix {w : World} {p : Nat} {q : RV} (h : On (Bel w.heap.size) w (fun W => ResAt W p q)) : ∃ R c nb X xm xd m gv, On Al w (fun W =>
    Arr W p 117 (resC (.string (strOf q.t)) (.slice R q.r.length c) (.int .i64 nb) (.slice X xm xd) (.int .i64 11) m (.int .i64 0)) ∧ Rd W R q.r.length (u8s q.r) ∧ MetaAt W m gv q.s ∧ GV W gv q.g) := by
  obtain ⟨R, c, nb, X, xm, xd, m, gv, hA, hR, hM, hG⟩ := h.here
  refine ⟨R, c, nb, X, xm, xd, m, gv, fun W a k => ?_⟩
  obtain ⟨R', c', nb', X', xm', xd', m', gv', hA', hR', hM', hG'⟩ := h W a (fun g g1 _ => k g g1 trivial)
  have hAW : Arr W p 117 (resC (.string (strOf q.t)) (.slice R q.r.length c) (.int .i64 nb) (.slice X xm xd) (.int .i64 11) m (.int .i64 0)) := (k p hA.lt trivial).trans hA
  have e := arr_inj hAW hA'
  simp only [resC, List.cons.injEq, Value.slice.injEq, and_true, true_and] at e
  obtain ⟨⟨e1, e2⟩, _, _, e3⟩ := e
  subst e1; subst e3
  have hgv : gv = gv' := by
    rcases hM with ⟨hm, hg, _⟩ | ⟨b, es, clk, hm, hb, hes⟩
    · rcases hM' with ⟨_, hg', _⟩ | ⟨b', _, _, hm', _⟩
      · rw [hg, hg']
      · rw [hm] at hm'; cases hm'
    · rcases hM' with ⟨hm', _⟩ | ⟨b', es', clk', hm', hb', hes'⟩
      · rw [hm] at hm'; cases hm'
      · rw [hm] at hm'
        injection hm' with e4
        injection e4 with e4
        subst e4
        have hbl : b < w.heap.size := by
          rcases Nat.lt_or_ge b w.heap.size with hl | hl
          · exact hl
          · rw [Array.getElem?_eq_none hl] at hb; cases hb
        rw [k b hbl trivial, hb] at hb'
        injection hb' with e5
        injection e5 with e5 e6
        rw [e5, hes'] at hes
        exact (prs_inj hes).symm
  subst hgv
  exact ⟨hAW, hR', hM', hG'⟩
theorem OwnL.blk {α : Type} {F : World → List Value → α → Prop} {sz : Nat} {S : Nat → Prop} {w : World} {B : Nat} {e : TypeId} {v : Value} {L : List α} (h : OwnL F sz S w B e v L) (hL : 0 < L.length) :
    ∃ g c, v = .slice (some ⟨g, 0, none⟩) L.length c ∧ B ≤ g ∧ g < w.heap.size := by
  obtain ⟨ys, h0, hy, h1, hF⟩ := h
  rcases h1.2 with ⟨e, e2⟩ | ⟨g, cap, cur, hv, hg, hh, r⟩
  · omega
  · exact ⟨g, cap, hv, hg, (World.ownsRow.lt h1 g (by rw [hv]; rfl)).2⟩
theorem On.offBel {B : Nat} {w : World} {Φ : World → Prop} {v : Value} (h : On (Bel B) w Φ) (hv : ∀ k, v.ownBlock = some k → B ≤ k) : On (offS (Bel B) v) w Φ :=
  h.mono (fun g _ h2 => ⟨h2, fun e => by have := hv g e; unfold Bel at h2; omega⟩)
section
variable {P : Program} {ops : Array Oper} {o : Oper} {a : Act} {α : Type} {F : World → List Value → α → Prop} {S : Nat → Prop}
/-- append of one element of sz cells, and whose block the result has. -/
theorem wpList_appK (w : World) {rest : List Oper} {Q : Exit → Act → World → Prop} (hgd : o.guard = none) (s x : Operand) (t : TypeId)
    (ho : o.op = .call { callee := .builtin .append, args := #[s, x], argTypes := #[t, t] })
    (B : Nat) (E : TypeId) (i : TypeInfo) (z : Value) (sz bytes : Nat) (ht : P.underlying t = some (.slice E)) (hi : P.info? E = some i) (hz : i.zero = some z)
    (hsize : i.size = sz) (hby : i.bytes = bytes) (hzs : z.cells.size = sz) (hs0 : 0 < sz) (v : Value) (L : List α) (hs : a.eval s = v) (hown : OwnL F sz S w B E v L)
    (ad : Addr) (c : Nat) (y : List Value) (q : α) (hx : a.eval x = .slice (some ad) 1 c) (hl : y.length = sz) (hr : ∀ j u, y[j]? = some u → w.cell? (ad.add j) = some u) (h1 : ∀ u ∈ y, u.oneCell' = true)
    (hq : On (offS S v) w (fun W => F W y q)) (h63 : L.length + 1 ≤ maxLen) (hbytes : (L.length + 1) * bytes ≤ 140737488355328) (hB : B ≤ w.heap.size)
    (h : ∀ v' w', OwnL F sz S w' B E v' (L ++ [q]) → w.grownBy w' v.ownBlock → (v'.ownBlock = v.ownBlock ∨ v'.ownBlock = some w.heap.size) → wpList P ops Q rest (a.put o.dst v') w') : wpList P ops Q (o :: rest) a w :=
  wpList_plain hgd fun _ hK => by
    obtain ⟨ys, h0, hy, hO, hF⟩ := hown
    obtain ⟨v', w', hrun, h2, h3, _, h5⟩ := run_append_own_at (P := P) w B t o.type E i z sz bytes ht hi hz hsize hby hzs hs0 v L.length ys.flatten hO ad 1 c y (by omega) hr h1 h63 hbytes hB
    unfold Oper.wp execOp
    simp only [ho, resolve, invoke, builtin, Sem.run_bind, Sem.run_pure, Result.andThen_ok, List.map_toArray, List.map_cons, List.map_nil, hs, hx, hrun]
    exact hK _ _ (h v' w' (OwnL.app h0 hy hF hq hl h2 h3 h5) h3 h5)
end
theorem rd_cells {w : World} {b o n : Nat} {l : List Value} (h : Rd w (some ⟨b, o, none⟩) n l) : ∀ j v, l[j]? = some v → w.cell? ⟨b, o + j, none⟩ = some v := by
  intro j v hv
  obtain ⟨hl, he⟩ := List.getElem?_eq_some_iff.1 hv
  obtain ⟨b', o', e, _, hc⟩ := h.2 (by rw [← h.1]; omega)
  injection e with e; injection e with e1 e2; subst e1; subst e2
  rw [hc j hl, he]
theorem rd_src {w : World} {A : Option Addr} {n : Nat} {l : List Value} (h : Rd w A n l) (hn : 0 < l.length) : ∃ ad, A = some ad ∧ ∀ j v, l[j]? = some v → w.cell? (ad.add j) = some v := by
  obtain ⟨b, o, e, _, _⟩ := h.2 (by rw [← h.1]; exact hn)
  exact ⟨_, e, rd_news (e ▸ h)⟩
theorem Kp.mono {B C q : Nat} {w w' : World} (h : Kp B q w w') (hC : C ≤ B) : Kp C q w w' := ⟨h.os, h.tape, h.output, h.size, fun g h1 h2 => h.block g (Nat.lt_of_lt_of_le h1 hC) h2⟩
/-- copy into a row that is known whole: nothing else turns. -/
theorem wpList_copyK {P : Program} {w : World} {ops : Array Oper} {rest : List Oper} {o : Oper} {a : Act} {Q : Exit → Act → World → Prop} (hgd : o.guard = none) (d s : Operand) (dT sT : TypeId)
    (ho : o.op = .call { callee := .builtin .copy, args := #[d, s], argTypes := #[dT, sT] }) (elem : TypeId) (hu : P.underlying dT = some (.slice elem)) (hsz : (P.info? elem).map (·.size) = some 1)
    (dp sp : Option Addr) (dLen dCap sLen sCap : Nat) (hd : a.eval d = .slice dp dLen dCap) (hs : a.eval s = .slice sp sLen sCap)
    (g off : Nat) (cur : List Value) (t : TypeId) (hg : Arr w g t cur) (cs : List Value) (hn : cs.length = Nat.min sLen dLen)
    (hpos : 0 < cs.length → dp = some ⟨g, off, none⟩ ∧ ∃ ad, sp = some ad ∧ ∀ j v, cs[j]? = some v → w.cell? (ad.add j) = some v)
    (hfit : off + cs.length ≤ cur.length) (h1 : ∀ v ∈ cs, v.oneCell' = true)
    (h : ∀ w', Hid (Arr w' g t (splice cur off cs)) → Kp w.heap.size g w w' → wpList P ops Q rest (a.put o.dst (goInt cs.length)) w') :
    wpList P ops Q (o :: rest) a w := by
  by_cases h0 : cs.length = 0
  · obtain rfl : cs = [] := List.eq_nil_of_length_eq_zero h0
    refine wpList_copy_nothing hgd d s dT sT ho elem hu hsz dp sp dLen dCap sLen sCap hd hs (by simpa using hn.symm) ?_
    exact h w (hid (show Arr w g t (splice cur off []) from by rw [show splice cur off ([] : List Value) = cur from by simp [splice]]; exact hg)) (Kp.refl _ _ _)
  · obtain ⟨rfl, ad, rfl, hsrc⟩ := hpos (by omega)
    refine wpList_copy_own hgd d s dT sT ho elem hu hsz g off dLen dCap ad sLen sCap hd hs cur.toArray t hg cs hn hsrc (by simpa using hfit) h1 ?_
    exact h _ (hid (setRow_heap w g _ _ t _ hg)) ⟨rfl, rfl, rfl, by simp [World.setRow], fun k _ hk => setRow_other w g k _ hk⟩
/-- Two slices' own blocks are two. -/
def Ap (a b : Value) : Prop := ∀ k, a.ownBlock = some k → b.ownBlock ≠ some k
theorem Ap.symm {a b : Value} (h : Ap a b) : Ap b a := fun k hk e => h k e hk
theorem Ap.ne {a b : Value} (h : Ap a b) : b.ownBlock = none ∨ b.ownBlock ≠ a.ownBlock := by
  rcases hb : b.ownBlock with _ | k
  · exact .inl rfl
  · right
    intro e
    exact h k e.symm hb
theorem Ap.app {a a' b : Value} {n : Nat} (h : Ap a b) (ha : a'.ownBlock = a.ownBlock ∨ a'.ownBlock = some n) (hb : ∀ k, b.ownBlock = some k → k < n) : Ap a' b := by
  intro k h1 h2
  rcases ha with e | e
  · exact h k (e ▸ h1) h2
  · rw [e] at h1; injection h1 with h1; have := hb k h2; omega
/-- A list of one slice of bytes. -/
theorem segOn {S : Nat → Prop} {w : World} {gl g2 n : Nat} {f : List Nat} (hl : Arr w gl 22 [.slice (some ⟨g2, 0, none⟩) n n]) (h2 : Arr w g2 5 (u8s f)) (hn : f.length = n) (s1 : S gl) (s2 : S g2) : On S w (fun W => RdL FB 1 W (some ⟨gl, 0, none⟩) 1 [f]) := by
  intro W a k
  have hl' : Arr W gl 22 [.slice (some ⟨g2, 0, none⟩) n n] := (k gl hl.lt s1).trans hl
  have h2' : Arr W g2 5 (u8s f) := (k g2 h2.lt s2).trans h2
  refine ⟨rfl, fun _ => ⟨gl, 0, rfl, hl'.lt, fun j x hx => ?_⟩⟩
  match j, hx with
  | 0, hx =>
    simp only [List.getElem?_cons_zero, Option.some.injEq] at hx
    subst hx
    refine ⟨[.slice (some ⟨g2, 0, none⟩) n n], rfl, fun i u hu => ?_, some ⟨g2, 0, none⟩, n, by rw [hn], by rw [hn]; exact Nat.le_refl _, ?_⟩
    · match i, hu with
      | 0, hu =>
        simp only [List.getElem?_cons_zero, Option.some.injEq] at hu
        rw [← hu]
        exact hl'.cell? 0
    · have := Rd.of_arr h2'
      rwa [u8s_len] at this
/-- What comes of results. -/
def ProcOut (L : List RV) (w : World) (e : Ending) (w' : World) : Prop :=
  ∃ A n c out, e = .returned (.slice A n c) ∧ n = out.length ∧ n ≤ c ∧ Joined L out ∧ On Al w' (fun W => RdL FR 1 W A n out) ∧ Below w.heap.size w w'
theorem info61 : (Try.prog.info? 61).map (fun i => (i.zero, i.size, i.bytes)) = some (some (.pointer none), 1, 8) := by kernel_rfl
theorem isSA_get (q : RV) : q.s.isSome = isSA q := rfl
end Go.Proofs.Ytpffffhgmhpkiaa
