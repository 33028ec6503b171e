/- QR codes: FnRQJoins: results and what is kept with them. -/
import Derived.Test.YtpffffhgmhpkiaaJnC
import Derived.Maps.Own
namespace Go.Proofs.Ytpffffhgmhpkiaa
open Go.RowKit
set_option linter.unusedVariables false
set_option linter.unusedSimpArgs false

/-- What is kept with a result, key by key. -/
def prs (gv : Option Value) (s : Option Int) : List (Value × Value) :=
  (match gv with | none => [] | some v => [(Value.int .i64 2, Value.iface 23 v)]) ++ (match s with | none => [] | some x => [(Value.int .i64 9, Value.iface 3 (.int .i64 x))])
def MetaAt (W : World) (m : Value) (gv : Option Value) (s : Option Int) : Prop :=
  (m = .map none ∧ gv = none ∧ s = none) ∨ ∃ b es clk, m = .map (some b) ∧ W.heap[b]? = some (.map es clk) ∧ es.toList.map (fun e => (e.key, e.val)) = prs gv s
def gVal (gv : Option Value) : Value := match gv with | none => .nilIface | some v => .iface 23 v
def sVal (s : Option Int) : Value := match s with | none => .nilIface | some x => .iface 3 (.int .i64 x)
theorem es_of {es : Array MapEntry} {l : List (Value × Value)} (h : es.toList.map (fun e => (e.key, e.val)) = l) : ∃ l' : List MapEntry, es = l'.toArray ∧ l'.map (fun e => (e.key, e.val)) = l := ⟨es.toList, rfl, h⟩
theorem u71 : Try.prog.underlying 71 = some (.map 65 20) := by kernel_rfl
theorem u65 : Try.prog.underlying 65 = some (.int .i64) := by kernel_rfl
theorem z20 (W : World) : (zeroValue 20).run Try.prog W = .ok .nilIface W := by kernel_rfl
theorem lookN2 (W : World) : (Instr.lookup 71 (.map none) (.int .i64 2) false).run Try.prog W = .ok .nilIface W := by kernel_rfl
theorem lookN9 (W : World) : (Instr.lookup 71 (.map none) (.int .i64 9) false).run Try.prog W = .ok .nilIface W := by kernel_rfl
theorem lookN9t (W : World) : (Instr.lookup 71 (.map none) (.int .i64 9) true).run Try.prog W = .ok (.tuple #[.nilIface, .bool false]) W := by kernel_rfl
def g0 (gv : Option Value) : Option (Nat × Value) := match gv with | none => none | some v => some (0, .iface 23 v)
theorem map_two {l : List MapEntry} {a b : Value × Value} (h : l.map (fun e => (e.key, e.val)) = [a, b]) : ∃ x y, l = [x, y] ∧ x.key = a.1 ∧ x.val = a.2 ∧ y.key = b.1 ∧ y.val = b.2 := by
  match l, h with
  | [x, y], h => simp only [List.map_cons, List.map_nil, List.cons.injEq, and_true] at h; exact ⟨x, y, rfl, by rw [← h.1], by rw [← h.1], by rw [← h.2], by rw [← h.2]⟩
theorem map_one {l : List MapEntry} {a : Value × Value} (h : l.map (fun e => (e.key, e.val)) = [a]) : ∃ x, l = [x] ∧ x.key = a.1 ∧ x.val = a.2 := by
  match l, h with
  | [x], h => simp only [List.map_cons, List.map_nil, List.cons.injEq, and_true] at h; exact ⟨x, rfl, by rw [← h], by rw [← h]⟩
theorem find2 (gv : Option Value) (s : Option Int) (l : List MapEntry) (hl : l.map (fun e => (e.key, e.val)) = prs gv s) : Instr.findNow (.int .i64) (.int .i64 2) l 0 = some (g0 gv) := by
  cases gv <;> cases s <;> simp only [prs, List.nil_append, List.append_nil, List.cons_append] at hl
  · simp at hl; subst hl; rfl
  · obtain ⟨e, rfl, h1, h2⟩ := map_one hl; simp [Instr.findNow, Instr.sameNow, h1, g0]
  · obtain ⟨e, rfl, h1, h2⟩ := map_one hl; simp [Instr.findNow, Instr.sameNow, h1, h2, g0]
  · obtain ⟨e, e2, rfl, h1, h2, h3, h4⟩ := map_two hl; simp [Instr.findNow, Instr.sameNow, h1, h2, g0]
theorem find9 (gv : Option Value) (s : Option Int) (l : List MapEntry) (hl : l.map (fun e => (e.key, e.val)) = prs gv s) : ∃ k, Instr.findNow (.int .i64) (.int .i64 9) l 0 = some (match s with | none => none | some x => some (k, .iface 3 (.int .i64 x))) := by
  cases gv <;> cases s <;> simp only [prs, List.nil_append, List.append_nil, List.cons_append] at hl
  · simp at hl; subst hl; exact ⟨0, rfl⟩
  · obtain ⟨e, rfl, h1, h2⟩ := map_one hl; exact ⟨0, by simp [Instr.findNow, Instr.sameNow, h1, h2]⟩
  · obtain ⟨e, rfl, h1, h2⟩ := map_one hl; exact ⟨0, by simp [Instr.findNow, Instr.sameNow, h1, h2]⟩
  · obtain ⟨e, e2, rfl, h1, h2, h3, h4⟩ := map_two hl; exact ⟨1, by simp [Instr.findNow, Instr.sameNow, h1, h2, h3, h4]⟩
theorem chk_int (W : World) (k : Int) (e : Bool) (n : Nat) : (Instr.checkKey e (n + 1) 65 (.int .i64 k)).run Try.prog W = .ok () W := by simp [Instr.checkKey, run_underlying u65]
/-- A look-up of an integer, where it is found at once. -/
theorem look_run {W : World} {b clk : Nat} {l : List MapEntry} {k : Int} {r : Option (Nat × Value)} (ok : Bool) (hb : W.heap[b]? = some (.map l.toArray clk)) (hf : Instr.findNow (.int .i64) (.int .i64 k) l 0 = some r) :
    (Instr.lookup 71 (.map (some b)) (.int .i64 k) ok).run Try.prog W = .ok (match ok, r with | true, some (_, v) => .tuple #[v, .bool true] | true, none => .tuple #[.nilIface, .bool false] | false, some (_, v) => v | false, none => .nilIface) W := by
  have hg : (getObj b).run Try.prog W = .ok (.map l.toArray clk) W := by simp [getObj, Sem.run, hb]
  have hk : ∀ e, (Instr.checkKey e 10000 65 (.int .i64 k)).run Try.prog W = .ok () W := fun e => chk_int W k e 9999
  have hfk : (Instr.findKey 65 (.int .i64 k) l).run Try.prog W = .ok r W := by simp [Instr.findKey, run_underlying u65, hf]
  cases ok <;> rcases r with _ | ⟨i, v⟩ <;> simp [Instr.lookup, run_underlying u71, hg, hk, hfk, z20]
theorem look2 {W : World} {m : Value} {gv : Option Value} {s : Option Int} (h : MetaAt W m gv s) : (Instr.lookup 71 m (.int .i64 2) false).run Try.prog W = .ok (gVal gv) W := by
  rcases h with ⟨rfl, rfl, rfl⟩ | ⟨b, es, clk, rfl, hb, he⟩
  · exact lookN2 W
  · obtain ⟨l, rfl, hl⟩ := es_of he
    rw [look_run false hb (find2 gv s l hl)]
    cases gv <;> rfl
theorem look9 {W : World} {m : Value} {gv : Option Value} {s : Option Int} (h : MetaAt W m gv s) : (Instr.lookup 71 m (.int .i64 9) false).run Try.prog W = .ok (sVal s) W := by
  rcases h with ⟨rfl, rfl, rfl⟩ | ⟨b, es, clk, rfl, hb, he⟩
  · exact lookN9 W
  · obtain ⟨l, rfl, hl⟩ := es_of he
    obtain ⟨k, hk⟩ := find9 gv s l hl
    rw [look_run false hb hk]
    cases s <;> rfl
theorem look9t {W : World} {m : Value} {gv : Option Value} {s : Option Int} (h : MetaAt W m gv s) : (Instr.lookup 71 m (.int .i64 9) true).run Try.prog W = .ok (.tuple #[sVal s, .bool s.isSome]) W := by
  rcases h with ⟨rfl, rfl, rfl⟩ | ⟨b, es, clk, rfl, hb, he⟩
  · exact lookN9t W
  · obtain ⟨l, rfl, hl⟩ := es_of he
    obtain ⟨k, hk⟩ := find9 gv s l hl
    rw [look_run true hb hk]
    cases s <;> rfl
/-- What is asked of the look-up's value. -/
theorem as23 (gv : Option Value) (W : World) : (Instr.typeAssert (gVal gv) 20 23 true).run Try.prog W = .ok (.tuple #[gv.getD (.slice none 0 0), .bool gv.isSome]) W := by
  cases gv with
  | none => kernel_rfl
  | some v => kernel_rfl
theorem as3 (s : Option Int) (W : World) : (Instr.typeAssert (sVal s) 20 3 true).run Try.prog W = .ok (.tuple #[.int .i64 (s.getD 0), .bool s.isSome]) W := by
  cases s with
  | none => kernel_rfl
  | some v => kernel_rfl
end Go.Proofs.Ytpffffhgmhpkiaa
