/- Words for the reader's segments. -/
import Derived.Test.YtfmjkflihnfneaaDoorDnP
namespace Go.Proofs.YtfmjkflihnfneaaDoor
open Go.RowKit
set_option linter.unusedVariables false
set_option linter.unusedSimpArgs false
/-- Where the words lie, and what lies below the call's own blocks. -/
structure Rdr (W : List Nat) (A : Option Addr) (c q B : Nat) (w : World) : Prop where
  rd : Rd w A W.length (u8s W)
  lt : ∀ j, W.getD j 0 < 256
  n : W.length ≤ 4000
  ab : ∀ a, A = some a → a.block < B ∧ a.block ≠ q
  qb : q < B
  bs : B ≤ w.heap.size
theorem Rdr.kp {W : List Nat} {A : Option Addr} {c q B : Nat} {w w' : World} (h : Rdr W A c q B w) (hk : Kp B q w w') : Rdr W A c q B w' :=
  ⟨hk.rd h.rd h.ab, h.lt, h.n, h.ab, h.qb, Nat.le_trans h.bs hk.size⟩
theorem Fr.srcG {q : Nat} {v v' : Value} {w w' w'' : World} (h : Fr q v w v' w') (hg : w'.grownBy w'' (some q)) : Fr q v w v' w'' :=
  ⟨Nat.le_trans h.1 hg.size, fun g h1 h2 h3 => ⟨(hg.block g (Nat.lt_of_lt_of_le h1 h.1) (fun e => h2 (by injection e))).trans (h.2 g h1 h2 h3).1, (h.2 g h1 h2 h3).2⟩⟩
theorem Fr.newG {q k : Nat} {v v' : Value} {w w' w'' : World} (h : Fr q v w v' w') (hg : w'.grownBy w'' (some k)) (hk : w.heap.size ≤ k) : Fr q v w v' w'' :=
  ⟨Nat.le_trans h.1 hg.size, fun g h1 h2 h3 => ⟨(hg.block g (Nat.lt_of_lt_of_le h1 h.1) (fun e => by injection e with e; omega)).trans (h.2 g h1 h2 h3).1, (h.2 g h1 h2 h3).2⟩⟩
/-- What a segment's reader leaves: the source at place p', and the text o'. -/
def SegOut (W : List Nat) (A : Option Addr) (c q B p' : Nat) (o' : List Nat) (v : Value) (w : World) (e : Ending) (w' : World) : Prop :=
  ∃ v', e = .returned (.tuple #[v', .nilIface]) ∧ Src w' q A W.length c (8 * p') ∧ Own w' B 5 v' (u8s o') ∧ Kp B q w w' ∧ Fr q v w v' w'
theorem run_take (m sh0 : Nat) (x : List Nat) (i : Nat) (h : i < x.length) (sh : Nat) (out : List Nat) (hr : vRun m (sh0, []) (x.take i) = (sh, out)) :
    vRun m (sh0, []) (x.take (i + 1)) = ((vStep m sh (x.getD i 0)).1, out ++ (vStep m sh (x.getD i 0)).2) := by
  rw [List.take_succ_eq_append_getElem h, vRun_app, hr, List.getD, List.getElem?_eq_getElem h]
  rfl
theorem ok_drop (m sh : Nat) (x : List Nat) (i : Nat) (h : i < x.length) : vAllOk m sh (x.drop i) = (vOk m sh (x.getD i 0) && vAllOk m (vStep m sh (x.getD i 0)).1 (x.drop (i + 1))) := by
  rw [List.drop_eq_getElem_cons h, List.getD, List.getElem?_eq_getElem h]
  rfl
theorem TSeg.inv {W : List Nat} {m p sh q : Nat} {l : List Nat} (h : TSeg W m p sh q l) :
    (p + 2 < W.length ∧ W.getD p 0 = 254 ∧ q = p + 1 ∧ l = []) ∨
    ∃ a b c l3, p + 3 < W.length ∧ W.getD p 0 = (1600 * a + 40 * b + c + 1) / 256 ∧ W.getD (p + 1) 0 = (1600 * a + 40 * b + c + 1) % 256 ∧ vAllOk m sh [a, b, c] = true ∧
      TSeg W m (p + 2) (vRun m (sh, []) [a, b, c]).1 q l3 ∧ l = (vRun m (sh, []) [a, b, c]).2 ++ l3 := by
  cases h with
  | stop _ _ h1 h2 => exact .inl ⟨h1, h2, rfl, rfl⟩
  | pair _ _ a b c _ l3 h1 h2 h3 h4 h5 => exact .inr ⟨a, b, c, l3, h1, h2, h3, h4, h5, rfl⟩
theorem Rd.grown {w w' : World} {A : Option Addr} {n : Nat} {l : List Value} {r : Option Nat} (h : Rd w A n l) (hg : w.grownBy w' r) (hne : ∀ a, A = some a → some a.block ≠ r) : Rd w' A n l :=
  ⟨h.1, fun hn => by
    obtain ⟨b, o, hA, hb, hc⟩ := h.2 hn
    exact ⟨b, o, hA, Nat.lt_of_lt_of_le hb hg.size, fun k hk => (World.cell?_of_block (w := w) (hg.block b hb (hne _ hA))).trans (hc k hk)⟩⟩
theorem three_at (x0 x1 x2 i : Nat) (h : i < 3) : (ints [x0, x1, x2])[i]? = some (.int .i64 ([x0, x1, x2].getD i 0 : Nat)) := ints_at [x0, x1, x2] i h
theorem tab_cell (w : World) (l : List Nat) (k : Nat) (hk : k < l.length) (TA : Array Value) (hT : TA = (u8s l).toArray) (o1 : Obj) : ((w.alloc o1).alloc (.cells TA 5)).cell? ⟨w.heap.size + 1, k, none⟩ = some (.int .u8 (l.getD k 0 : Nat)) := by
  subst hT
  have h := (Arr.of_new (w.alloc o1) 5 (u8s l).toArray).cell? k
  rw [show (w.alloc o1).heap.size = w.heap.size + 1 from by simp] at h
  rw [h, show (u8s l).toArray.toList = u8s l from rfl]
  simp [u8s, List.getD, List.getElem?_eq_getElem hk]
@[reducible] def TabIs (f n : Nat) (TA : Array Value) : Prop := ∀ W : World, Calls Tryd.prog f #[] W (fun e w' => e = .returned (.slice (some ⟨W.heap.size, 0, none⟩) n n) ∧ w' = W.alloc (.cells TA 5))
theorem tabIs {f : Nat} {l : List Nat} (h : ∀ W, Calls Tryd.prog f #[] W (TabOut l W)) (n : Nat) (hn : l.length = n) : ∃ TA, TA = (u8s l).toArray ∧ TabIs f n TA := by
  subst hn
  exact ⟨_, rfl, h⟩
theorem three_of (m sh : Nat) (a b c : Nat) (h : vAllOk m sh [a, b, c] = true) : a < 40 ∧ b < 40 ∧ c < 40 := by
  simp only [vAllOk, Bool.and_eq_true, vOk, decide_eq_true_eq] at h
  exact ⟨h.1.1, h.2.1.1, h.2.2.1.1⟩
end Go.Proofs.YtfmjkflihnfneaaDoor
