/- QR codes: FnRQJoins: a result is made, things are kept with it. -/
import Derived.Test.YtpffffhgmhpkiaaJnD
import Derived.ChangeMaps5
namespace Go.Proofs.Ytpffffhgmhpkiaa
open Go.RowKit Go.ChangeMaps Go.MapKept
set_option linter.unusedVariables false
set_option linter.unusedSimpArgs false

theorem put_run {W : World} {b clk : Nat} {l : List MapEntry} {k : Int} (v : Value) (hb : W.heap[b]? = some (.map l.toArray clk)) (hf : Instr.findNow (.int .i64) (.int .i64 k) l 0 = some none) :
    (Instr.mapUpdate 71 (.map (some b)) (.int .i64 k) v).run Try.prog W = .ok () (setBlock W b (.map (l ++ [({ key := .int .i64 k, val := v, born := clk } : MapEntry)]).toArray (clk + 1))) := by
  have hg : (getObj b).run Try.prog W = .ok (.map l.toArray clk) W := by simp [getObj, Sem.run, hb]
  have hk : ∀ e, (Instr.checkKey e 10000 65 (.int .i64 k)).run Try.prog W = .ok () W := fun e => chk_int W k e 9999
  have hfk : (Instr.findKey 65 (.int .i64 k) l).run Try.prog W = .ok none W := by simp [Instr.findKey, run_underlying u65, hf]
  have hs := fun o => run_setObj_map (P := Try.prog) (w := W) o hb
  simp [Instr.mapUpdate, run_underlying u71, hg, hk, hfk, hs, setBlock]
/-- The cells of a result. -/
def resC (t R nb rp f m ts : Value) : List Value := [t, R, nb, rp, f, m, ts]
def NewOut (t R rp f : Value) (w : World) (e : Ending) (w' : World) : Prop :=
  ∃ p nb, e = .returned (.pointer (some ⟨p, 0, none⟩)) ∧ Arr w' p 117 (resC t R (.int .i64 nb) rp f (.map none) (.int .i64 0)) ∧ w.heap.size ≤ p ∧ Below w.heap.size w w'
set_option maxRecDepth 20000 in
set_option maxHeartbeats 4000000 in
theorem newQ (t : ByteArray) (A X : Option Addr) (n c m d : Nat) (f : Int) (w : World) : Calls Try.prog 26 #[.string t, .slice A n c, .slice X m d, .int .i64 f] w (NewOut (.string t) (.slice A n c) (.slice X m d) (.int .i64 f) w) := by
  go_enter Try.func26, Try.ntmps26
  go_wp2_with go_in
  go_ret
  exact ⟨_, _, rfl, Arr.of_new _ _ _, Nat.le_refl _, (Below.refl _ _).alloc (Nat.le_refl _) _⟩
theorem eqN (W : World) : (binOp .eql 71 (.map none) (.map none)).run Try.prog W = .ok (.bool true) W := by kernel_rfl
theorem eqS (W : World) (b : Nat) : (binOp .eql 71 (.map (some b)) (.map none)).run Try.prog W = .ok (.bool false) W := by kernel_rfl
/-- One block turned. -/
def putOut (p : Nat) (v : Value) (k : Int) (t R nb rp f ts : Value) (w : World) (e : Ending) (w' : World) : Prop :=
  ∃ b, w.heap.size ≤ b ∧ e = .returned (.tuple #[]) ∧ Arr w' p 117 (resC t R nb rp f (.map (some b)) ts) ∧ w'.heap[b]? = some (.map #[⟨.int .i64 k, v, 0⟩] 1) ∧ Kp w.heap.size p w w'
set_option maxRecDepth 20000 in
set_option maxHeartbeats 4000000 in
theorem put1Q (p : Nat) (k : Int) (v t R nb rp f ts : Value) (w : World) (hA : Arr w p 117 (resC t R nb rp f (.map none) ts)) : Calls Try.prog 27 #[.pointer (some ⟨p, 0, none⟩), .int .i64 k, v] w (putOut p v k t R nb rp f ts w) := by
  have c5 : w.cell? ⟨p, 5, none⟩ = some (.map none) := hA.cell? 5
  have hlt := hA.lt
  have mk : ∀ W : World, (Instr.makeMap 71 (some (.int .i64 1))).run Try.prog W = .ok (.map (some W.heap.size)) (W.alloc (.map #[] 0)) := fun W => by kernel_rfl
  have fz := (hA.alloc (.map #[] 0)).frozen 5
  have HA2 := hid ((hA.set 5 (.map (some w.heap.size))).alloc (.map #[] 0))
  obtain ⟨W, hW⟩ : ∃ W, W = (w.setCell ⟨p, 5, none⟩ (.map (some w.heap.size))).alloc (.map #[] 0) := ⟨_, rfl⟩
  have hz : W.heap.size = w.heap.size + 1 := by rw [hW]; simp
  have hm2 : W.heap[w.heap.size]? = some (.map ([] : List MapEntry).toArray 0) := by
    rw [hW]
    have := heap_alloc_new (w.setCell ⟨p, 5, none⟩ (.map (some w.heap.size))) (.map #[] 0)
    rwa [World.size_setCell] at this
  have hkp : Kp w.heap.size p w W := by
    rw [hW]
    exact (⟨rfl, rfl, rfl, by rw [World.size_setCell]; exact Nat.le_refl _, fun g _ hg => Below.heap_setCell w ⟨p, 5, none⟩ _ g hg⟩ : Kp w.heap.size p w (w.setCell ⟨p, 5, none⟩ (.map (some w.heap.size)))).alloc (by simp) _
  have pr := put_run (k := k) v hm2 rfl
  rw [hW] at pr
  have HM2 := hid hm2
  have HKP := hid hkp
  have HW := hid hW
  rw [← hW] at HA2
  have eqn := fun W => eqN W
  clear hA hm2 hkp hW
  go_enter Try.func27, Try.ntmps27
  go_wp2_with fail
  rw [← HW.out]
  go_end0
  refine ⟨w.heap.size, Nat.le_refl _, rfl, ?_, heap_setBlock_same HM2.out _, HKP.out.trans ⟨rfl, rfl, rfl, by simp [setBlock], fun g hg _ => heap_setBlock_other HM2.out _ (by omega)⟩⟩
  exact (heap_setBlock_other HM2.out _ (by omega)).trans HA2.out
/-- The second thing. -/
def put2Out (p b : Nat) (l : List MapEntry) (v : Value) (k : Int) (t R nb rp f ts : Value) (w : World) (e : Ending) (w' : World) : Prop :=
  e = .returned (.tuple #[]) ∧ Arr w' p 117 (resC t R nb rp f (.map (some b)) ts) ∧ (∃ clk, w'.heap[b]? = some (.map (l ++ [({ key := .int .i64 k, val := v, born := clk } : MapEntry)]).toArray (clk + 1))) ∧ Kp w.heap.size b w w'
set_option maxRecDepth 20000 in
set_option maxHeartbeats 4000000 in
theorem put2Q (p b clk : Nat) (l : List MapEntry) (k : Int) (v t R nb rp f ts : Value) (w : World) (hA : Arr w p 117 (resC t R nb rp f (.map (some b)) ts)) (hb : w.heap[b]? = some (.map l.toArray clk)) (hf : Instr.findNow (.int .i64) (.int .i64 k) l 0 = some none) (hpb : p ≠ b) :
    Calls Try.prog 27 #[.pointer (some ⟨p, 0, none⟩), .int .i64 k, v] w (put2Out p b l v k t R nb rp f ts w) := by
  have c5 : w.cell? ⟨p, 5, none⟩ = some (.map (some b)) := hA.cell? 5
  have pr := put_run (k := k) v hb hf
  have eqs := fun W => eqS W b
  have HA := hid hA
  have HM := hid hb
  clear hA hb
  go_enter Try.func27, Try.ntmps27
  go_wp2_with fail
  go_end0
  exact ⟨rfl, (heap_setBlock_other HM.out _ hpb).trans HA.out, ⟨clk, heap_setBlock_same HM.out _⟩, rfl, rfl, rfl, by simp [setBlock], fun g _ hg => heap_setBlock_other HM.out _ hg⟩
end Go.Proofs.Ytpffffhgmhpkiaa
