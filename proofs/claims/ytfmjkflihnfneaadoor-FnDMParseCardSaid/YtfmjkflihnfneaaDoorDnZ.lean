/- The set of the reader's that stays empty: contains. The state of the reader's loop. -/
import Derived.Test.YtfmjkflihnfneaaDoorDnS
import Derived.Test.YtfmjkflihnfneaaDoorDnT
import Derived.Test.YtfmjkflihnfneaaDoorDnU
import Derived.Test.YtfmjkflihnfneaaDoorDnV
import Derived.Test.YtfmjkflihnfneaaDoorDnW
import Derived.Test.YtfmjkflihnfneaaDoorDnX
import Derived.Test.YtfmjkflihnfneaaDoorDnY
import Derived.Maps.OwnSet
namespace Go.Proofs.YtfmjkflihnfneaaDoor
open Go.RowKit
set_option linter.unusedVariables false
set_option linter.unusedSimpArgs false

/-- Block mb is an empty set of numbers. -/
def SetE (w : World) (mb : Nat) : Prop := w.heap[mb]? = some (.map #[] 0)
theorem SetE.owns {w : World} {mb : Nat} (h : SetE w mb) : w.ownsMap Tryd.prog 3 (unitElem (H := Unit)) mb 0 (.map []) := by
  refine ⟨#[], 0, h, ⟨by simp, MapKept.stamped_empty 0, by simp⟩, Nat.le_refl _, rfl⟩
theorem und65 : Tryd.prog.underlying 65 = some (.map 3 101) := by kernel_rfl
theorem und3 : Tryd.prog.underlying 3 = some (.int .i64) := by kernel_rfl
theorem zero101 (w : World) : (zeroValue 101).run Tryd.prog w = .ok (.agg #[]) w := by kernel_rfl
theorem lookE (w : World) (mb : Nat) (h : SetE w mb) (k : Int) (hk1 : -100 ≤ k) (hk2 : k ≤ 100) : (Instr.lookup 65 (.map (some mb)) (.int .i64 k) true).run Tryd.prog w = .ok (.tuple #[.agg #[], .bool false]) w := by
  obtain ⟨v, ps, hrun, hv⟩ := h.owns.look_ok (Maps.int_keyed und3) und65 (z := .agg #[]) (zero101 w) unitElem_mk (Maps.keyOf_int_mk und3 (a := k) (by simp [Lit.wf, IntKind.min, IntKind.max, IntKind.signed, IntKind.bits]; omega))
  obtain ⟨rfl, _⟩ := unitElem_inv hv
  exact hrun
set_option maxRecDepth 20000 in
theorem containsM (mb : Nat) (k : Int) (hk1 : -100 ≤ k) (hk2 : k ≤ 100) (w : World) (h : SetE w mb) : Calls Tryd.prog 41 #[.map (some mb), .int .i64 k] w (fun e w' => e = .returned (.bool false) ∧ Below w.heap.size w w') := by
  have hlk := lookE w mb h k hk1 hk2
  clear h
  go_enter Tryd.func41, Tryd.ntmps41
  go_wp2_with fail
  go_ret
  exact ⟨rfl, (Below.refl _ _).alloc (Nat.le_refl _) _⟩
/-- A block that neither the source nor the two slices have. -/
def Pr (q : Nat) (v b : Value) (w : World) (g : Nat) : Prop := g < w.heap.size ∧ g ≠ q ∧ v.ownBlock ≠ some g ∧ b.ownBlock ≠ some g
theorem Own.same {w w' : World} {B : Nat} {e : TypeId} {v : Value} {xs : List Value} (h : Own w B e v xs) (hh : ∀ k, v.ownBlock = some k → w'.heap[k]? = w.heap[k]?) : Own w' B e v xs := by
  refine ⟨h.1, ?_⟩
  rcases h.2 with h2 | ⟨g, cap, cur, hv, hg, hx, r⟩
  · exact .inl h2
  · exact .inr ⟨g, cap, cur, hv, hg, (hh g (by rw [hv]; rfl)).trans hx, r⟩
theorem fr_b {q B : Nat} {v v' b : Value} {xs : List Value} {w w' : World} (hO : Own w B 28 b xs) (hap : v.ownBlock = none ∨ v.ownBlock ≠ b.ownBlock) (hF : Fr q v w v' w') (hq : q < B) :
    Own w' B 28 b xs ∧ (v'.ownBlock = none ∨ v'.ownBlock ≠ b.ownBlock) := by
  have key : ∀ k, b.ownBlock = some k → w'.heap[k]? = w.heap[k]? ∧ v'.ownBlock ≠ some k := fun k hk => by
    have hl := hO.lt k hk
    refine hF.2 k hl.2 (by omega) (fun e => ?_)
    rcases hap with h | h
    · rw [h] at e; cases e
    · exact h (e.trans hk.symm)
  refine ⟨hO.same (fun k hk => (key k hk).1), ?_⟩
  cases hb : b.ownBlock with
  | none => exact Classical.em _
  | some k => exact .inr (key k hb).2
/-- The state of the reader's loop: in mode k at place p, with o said so far and xs the parts in Base 256. -/
structure DS (W X : List Nat) (A : Option Addr) (c q B mb : Nat) (w0 : World) (k p : Nat) (o : List Nat) (xs : List Value) (v b : Value) (w : World) : Prop where
  says : k = 0 ∧ o = X ∨ 1 ≤ k ∧ k ≤ 6 ∧ Says W X k p o
  src : Src w q A W.length c (8 * p)
  own : Own w B 5 v (u8s o)
  ownb : Own w B 28 b xs
  apart : v.ownBlock = none ∨ v.ownBlock ≠ b.ownBlock
  kp : Kp B q w0 w
  xp : xs.length ≤ p
  xn : xs.length ≤ W.length
  seg : ∀ x ∈ xs, ∃ (g n : Nat) (l : List Nat), x = .slice (some ⟨g, 0, none⟩) n n ∧ n ≤ 1600 ∧ Arr w g 5 (u8s l) ∧ l.length = n ∧ Pr q v b w g
  set : SetE w mb
  setp : Pr q v b w mb
section
variable {W X : List Nat} {A : Option Addr} {c q B mb : Nat} {w0 : World} {k p : Nat} {o : List Nat} {xs : List Value} {v b : Value} {w : World}
theorem DS.drewN (h : DS W X A c q B mb w0 k p o xs v b w) (n : Nat) : DS W X A c q B mb w0 k p o xs v b (w.drewN n) :=
  ⟨h.says, h.src.drewN n, h.own.drewN n, h.ownb.drewN n, h.apart, h.kp.drewN n, h.xp, h.xn, h.seg, h.set, h.setp⟩
theorem DS.fr (h : DS W X A c q B mb w0 k p o xs v b w) (hq : q < B) {k' p' : Nat} {o' : List Nat} {v' : Value} {w' : World} (hs : k' = 0 ∧ o' = X ∨ 1 ≤ k' ∧ k' ≤ 6 ∧ Says W X k' p' o') (hp : p ≤ p')
    (src : Src w' q A W.length c (8 * p')) (own : Own w' B 5 v' (u8s o')) (kp : Kp B q w w') (fr : Fr q v w v' w') : DS W X A c q B mb w0 k' p' o' xs v' b w' := by
  obtain ⟨h1, h2⟩ := fr_b h.ownb h.apart fr hq
  have keep : ∀ g, Pr q v b w g → w'.heap[g]? = w.heap[g]? ∧ Pr q v' b w' g := fun g hg => by
    obtain ⟨a1, a2⟩ := fr.2 g hg.1 hg.2.1 hg.2.2.1
    exact ⟨a1, Nat.lt_of_lt_of_le hg.1 fr.1, hg.2.1, a2, hg.2.2.2⟩
  refine ⟨hs, src, own, h1, h2, h.kp.trans kp, Nat.le_trans h.xp hp, h.xn, fun x hx => ?_, ?_, (keep mb h.setp).2⟩
  · obtain ⟨g, n, l, e1, e2, e3, e4, e5⟩ := h.seg x hx
    exact ⟨g, n, l, e1, e2, (keep g e5).1.trans e3, e4, (keep g e5).2⟩
  · exact (keep mb h.setp).1.trans h.set
theorem DS.segB (h : DS W X A c q B mb w0 k p o xs v b w) {p' : Nat} {o' s : List Nat} {v' b' : Value} {w' : World} {g : Nat} (hs : Says W X 1 p' o') (hp : p + 1 ≤ p') (hpn : p < W.length) (h16 : s.length ≤ 1600)
    (src : Src w' q A W.length c (8 * p')) (own : Own w' B 5 v' (u8s o')) (ownb : Own w' B 28 b' (xs ++ [.slice (some ⟨g, 0, none⟩) s.length s.length])) (apart : v'.ownBlock = none ∨ v'.ownBlock ≠ b'.ownBlock) (kp : Kp B q w w') (hqw : q < w.heap.size)
    (arr : Arr w' g 5 (u8s s)) (hg : w.heap.size ≤ g) (hv : v'.ownBlock ≠ some g) (hb : b'.ownBlock ≠ some g)
    (fr : ∀ k, k < w.heap.size → k ≠ q → v.ownBlock ≠ some k → b.ownBlock ≠ some k → w'.heap[k]? = w.heap[k]? ∧ v'.ownBlock ≠ some k ∧ b'.ownBlock ≠ some k) :
    DS W X A c q B mb w0 1 p' o' (xs ++ [.slice (some ⟨g, 0, none⟩) s.length s.length]) v' b' w' := by
  have keep : ∀ g, Pr q v b w g → w'.heap[g]? = w.heap[g]? ∧ Pr q v' b' w' g := fun g hg => by
    obtain ⟨a1, a2, a3⟩ := fr g hg.1 hg.2.1 hg.2.2.1 hg.2.2.2
    exact ⟨a1, Nat.lt_of_lt_of_le hg.1 kp.size, hg.2.1, a2, a3⟩
  have hx1 := h.xp
  have hx2 := h.xn
  refine ⟨.inr ⟨by omega, by omega, hs⟩, src, own, ownb, apart, h.kp.trans kp, by rw [List.length_append]; simp; omega, by rw [List.length_append]; simp; omega, fun x hx => ?_, (keep mb h.setp).1.trans h.set, (keep mb h.setp).2⟩
  rcases List.mem_append.1 hx with hx | hx
  · obtain ⟨g, n, l, e1, e2, e3, e4, e5⟩ := h.seg x hx
    exact ⟨g, n, l, e1, e2, (keep g e5).1.trans e3, e4, (keep g e5).2⟩
  · rw [List.mem_singleton.1 hx]
    exact ⟨g, s.length, s, rfl, h16, arr, rfl, arr.lt, by omega, hv, hb⟩
theorem tseg_pos {m sh q2 : Nat} {l : List Nat} (h : TSeg W m p sh q2 l) : p < q2 := by
  induction h with
  | stop => omega
  | pair _ _ _ _ _ _ _ _ _ _ _ _ ih => omega
theorem says_lt {k p : Nat} {o : List Nat} (h : Says W X k p o) : p < W.length := by
  cases h with
  | pad _ h1 => exact h1
  | ch _ _ _ h1 => exact h1
  | dig _ _ _ h1 => exact h1
  | latch _ _ _ h1 => exact h1
  | thr _ m q2 _ l h1 h2 h3 _ => rcases h3.inv with ⟨g1, _⟩ | ⟨_, _, _, _, g1, _⟩ <;> omega
  | edi _ n q2 _ h1 h2 => omega
  | b256 _ s _ h1 h2 h3 h4 => have := h4.1; simp [mixTo] at this; omega
theorem Says.invT {m p : Nat} {o : List Nat} (hm1 : 1 ≤ m) (hm3 : m ≤ 3) (h : Says W X (m + 1) p o) : ∃ q2 l, TSeg W m p 0 q2 l ∧ Says W X 1 q2 (o ++ l) := by
  generalize hk : m + 1 = k at h
  cases h with
  | pad _ _ _ => omega
  | ch _ _ _ _ _ _ _ => omega
  | dig _ _ _ _ _ _ _ => omega
  | latch _ _ _ _ _ _ => omega
  | thr _ m' q2 _ l h1 h2 h3 h4 => obtain rfl : m = m' := by omega
                                   exact ⟨q2, l, h3, h4⟩
  | edi => omega
  | b256 => omega
theorem Says.invE {p : Nat} {o : List Nat} (h : Says W X 5 p o) : ∃ n q2, q2 = p + (6 * (n + 1) + 7) / 8 ∧ q2 + 3 ≤ W.length ∧ (∀ i, i < n → rdn W (8 * p + 6 * i) 6 ≠ 31) ∧ rdn W (8 * p + 6 * n) 6 = 31 ∧ Says W X 1 q2 (o ++ ediL W p n) := by
  generalize hk : 5 = k at h
  cases h with
  | pad _ _ _ => omega
  | ch _ _ _ _ _ _ _ => omega
  | dig _ _ _ _ _ _ _ => omega
  | latch _ _ _ _ _ _ => omega
  | thr _ m' q2 _ l h1 h2 h3 h4 => omega
  | edi _ n q2 _ h1 h2 h3 h4 h5 => exact ⟨n, q2, h1, h2, h3, h4, h5⟩
  | b256 => omega
theorem Says.invB {p : Nat} {o : List Nat} (h : Says W X 6 p o) : ∃ s : List Nat, 1 ≤ s.length ∧ s.length ≤ 1600 ∧ (∀ c ∈ s, c < 256) ∧ AtW W p (mixTo (lenW s.length ++ s) (p - 1)) ∧ 1 ≤ p ∧ Says W X 1 (p + (lenW s.length).length + s.length) (o ++ s) := by
  generalize hk : 6 = k at h
  cases h with
  | pad _ _ _ => omega
  | ch _ _ _ _ _ _ _ => omega
  | dig _ _ _ _ _ _ _ => omega
  | latch _ _ _ _ _ _ => omega
  | thr _ m' q2 _ l h1 h2 h3 h4 => omega
  | edi => omega
  | b256 _ s _ h1 h2 h3 h4 h5 h6 => exact ⟨s, h1, h2, h3, h4, h5, h6⟩
end
end Go.Proofs.YtfmjkflihnfneaaDoor
