/- QR codes: the writer of bits: spec.qrAdd. -/
import Derived.Test.YtpffffhgmhpkiaaSpA
import Derived.Test.YtpffffhgmhpkiaaBitL
namespace Go.Proofs.Ytpffffhgmhpkiaa
open Go.RowKit
set_option linter.unusedVariables false
set_option linter.unusedSimpArgs false

/-- What a call keeps that has an owned slice v: all other blocks. -/
structure Fo (v : Value) (w : World) (v' : Value) (w' : World) : Prop where
  os : w'.os = w.os
  tape : w'.tape = w.tape
  output : w'.output = w.output
  size : w.heap.size ≤ w'.heap.size
  block : ∀ g, g < w.heap.size → v.ownBlock ≠ some g → w'.heap[g]? = w.heap[g]? ∧ v'.ownBlock ≠ some g
section
variable {v v' v'' : Value} {w w' w'' : World}
theorem Fo.refl (v : Value) (w : World) : Fo v w v w := ⟨rfl, rfl, rfl, Nat.le_refl _, fun _ _ h => ⟨rfl, h⟩⟩
theorem Fo.trans (h : Fo v w v' w') (k : Fo v' w' v'' w'') : Fo v w v'' w'' :=
  ⟨k.os.trans h.os, k.tape.trans h.tape, k.output.trans h.output, Nat.le_trans h.size k.size, fun g h1 h3 => by
    obtain ⟨a1, a2⟩ := h.block g h1 h3
    obtain ⟨b1, b2⟩ := k.block g (Nat.lt_of_lt_of_le h1 h.size) a2
    exact ⟨b1.trans a1, b2⟩⟩
theorem Fo.drewN (h : Fo v w v' w') (n : Nat) : Fo v w v' (w'.drewN n) := ⟨h.os, h.tape, h.output, h.size, h.block⟩
theorem Fo.alloc (h : Fo v w v' w') (o : Obj) : Fo v w v' (w'.alloc o) := ⟨h.os, h.tape, h.output, Nat.le_trans h.size (by simp), fun g h1 h3 => ⟨(Below.heap_alloc w' o g (Nat.lt_of_lt_of_le h1 h.size)).trans (h.block g h1 h3).1, (h.block g h1 h3).2⟩⟩
theorem Fo.app (hg : w.grownBy w' v.ownBlock) (ho : v'.ownBlock = v.ownBlock ∨ v'.ownBlock = some w.heap.size) : Fo v w v' w' :=
  ⟨hg.os, hg.tape, hg.output, hg.size, fun g h1 h3 => ⟨hg.block g h1 (fun e => h3 e.symm), by
    rcases ho with e | e
    · rw [e]; exact h3
    · rw [e]; intro h; cases h; omega⟩⟩
theorem Fo.belowG (h : Fo v w v' w') (hb : Below w'.heap.size w' w'') : Fo v w v' w'' :=
  ⟨hb.os.trans h.os, hb.tape.trans h.tape, hb.output.trans h.output, Nat.le_trans h.size hb.size, fun g h1 h3 => ⟨(hb.block g (Nat.lt_of_lt_of_le h1 h.size)).trans (h.block g h1 h3).1, (h.block g h1 h3).2⟩⟩
theorem Fo.toBelow {C : Nat} (h : Fo v w v' w') (hC : C ≤ w.heap.size) (ho : ∀ k, v.ownBlock = some k → C ≤ k) : Below C w w' :=
  ⟨h.os, h.tape, h.output, h.size, fun g hg => (h.block g (Nat.lt_of_lt_of_le hg hC) (fun e => by have := ho g e; omega)).1⟩
theorem Fo.cell (h : Fo v w v' w') {g k : Nat} (hg : g < w.heap.size) (ho : v.ownBlock ≠ some g) : w'.cell? ⟨g, k, none⟩ = w.cell? ⟨g, k, none⟩ := World.cell?_of_block (w := w) (h.block g hg ho).1
theorem Rd.fo {A : Option Addr} {n : Nat} {l : List Value} (hR : Rd w A n l) (h : Fo v w v' w') (ho : 0 < n → ∀ a, A = some a → v.ownBlock ≠ some a.block) : Rd w' A n l :=
  ⟨hR.1, fun hn => by
    obtain ⟨b, o, e, hb, hc⟩ := hR.2 hn
    exact ⟨b, o, e, Nat.lt_of_lt_of_le hb h.size, fun k hk => (h.cell hb (ho hn _ e)).trans (hc k hk)⟩⟩
end
def bools (l : List Bool) : List Value := l.map Value.bool
theorem bools_len (l : List Bool) : (bools l).length = l.length := by simp [bools]
theorem bools_app (a b : List Bool) : bools (a ++ b) = bools a ++ bools b := by simp [bools]
theorem info4b : (Try.prog.info? 4).map (fun i => (i.zero, i.size, i.bytes)) = some (some (.bool false), 1, 1) := by kernel_rfl
theorem andBit (x k : Nat) (hx : x < 1000000) : (bits .and .i64 ((x : Int) / 2 ^ k) 1 == 1) = (x / 2 ^ k % 2 == 1) := by
  have e1 : ((x : Int) / 2 ^ k) = ((x / 2 ^ k : Nat) : Int) := by simp
  have h2 : x / 2 ^ k < 9223372036854775808 := Nat.lt_of_le_of_lt (Nat.div_le_self _ _) (by omega)
  have e2 := i64_and (x / 2 ^ k) 1 h2 (by omega)
  rw [e1, show (1 : Int) = ((1 : Nat) : Int) from rfl, e2, Nat.and_one_is_mod]
  rcases Nat.mod_two_eq_zero_or_one (x / 2 ^ k) with h | h
  · rw [h]; rfl
  · rw [h]; rfl
def AddOut (B : Nat) (l : List Bool) (v : Value) (w : World) (e : Ending) (w' : World) : Prop :=
  ∃ v', e = .returned v' ∧ Own w' B 4 v' (bools l) ∧ Fo v w v' w'
theorem numB_take (n k j : Nat) (h : j < k) : (numB n k).take (j + 1) = (numB n k).take j ++ [n / 2 ^ (k - 1 - j) % 2 == 1] := by
  rw [List.take_add_one]
  congr 1
  simp [numB, List.getElem?_range h]
set_option maxRecDepth 20000 in
set_option maxHeartbeats 4000000 in
theorem addQ (n k B : Nat) (v : Value) (l : List Bool) (w : World) (hO : Own w B 4 v (bools l)) (hn : n < 1000000) (hk : k ≤ 32) (hl : l.length ≤ 100000) (hB : B ≤ w.heap.size) :
    Calls Try.prog 49 #[v, .int .i64 n, .int .i64 k] w (AddOut B (l ++ numB n k) v w) := by
  obtain ⟨i4, gi, gz0, gz1, gz2⟩ := info_of info4b
  have HO := hid hO
  obtain ⟨X, hX⟩ : ∃ X, X = numB n k := ⟨_, rfl⟩
  have HX := hid (fun j (h : j < k) => show X.take (j + 1) = X.take j ++ [n / 2 ^ (k - 1 - j) % 2 == 1] from by rw [hX]; exact numB_take n k j h)
  have HXl := hid (show X.length = k from by rw [hX]; exact numB_len n k)
  rw [← hX]
  clear hO hX
  go_enter Try.func49, Try.ntmps49
  go_wp2_with fail
  go_loopw [0, 7] (fun ov iv wr => ∃ (j : Nat), j ≤ k ∧ iv = .int .i64 ((k : Int) - 1 - (j : Int)) ∧ Hid (Own wr B 4 ov (bools (l ++ X.take j))) ∧ Hid (Fo v w ov wr)) (fun _ iv _ => (intOf iv + 1).toNat)
  case atStart => exact ⟨0, by omega, by first | rfl | go_num | (congr 1; omega), hid (by simpa using HO.out), hid (Fo.refl _ _)⟩
  case round =>
    obtain ⟨j, hj, rfl, HO, HF⟩ := hrel
    have HBr := hid (Nat.le_trans hB HF.out.size)
    by_cases hlt : j < k
    · have hlt' : (0 : Int) ≤ (k : Int) - 1 - (j : Int) := by omega
      obtain ⟨i, hi⟩ : ∃ i, i = k - 1 - j := ⟨_, rfl⟩
      have hi' : (k : Int) - 1 - (j : Int) = (i : Int) := by omega
      have HXj := hid (HX.out j hlt)
      rw [← hi] at HXj
      have HM := hid (show (bools (l ++ X.take j)).length + 1 ≤ maxLen ∧ ((bools (l ++ X.take j)).length + 1) * 1 ≤ 140737488355328 from by rw [bools_len, List.length_append, List.length_take, HXl.out]; simp only [maxLen]; omega)
      have HI := hid hi
      have hi32 : i < 32 := by omega
      rw [hi']
      clear hi hlt' hi'
      obtain ⟨bb, hbb⟩ : ∃ b, b = (n / 2 ^ i % 2 == 1) := ⟨_, rfl⟩
      have hbit := andBit n i hn
      rw [← hbb] at HXj hbit
      clear hbb
      go_wp2_with ((at_builtin; refine wpList_app _ rfl _ _ 41 rfl B 4 i4 _ 1 Try.underlying41 gi gz0 gz1 gz2 rfl _ (bools (l ++ X.take j)) rfl (HO.out.alloc _) _ 1 1 [.bool bb] rfl (Rd.one' _ _ _ _ (by first | rfl | (simp; done))) (by intro u hu; rw [List.mem_singleton.1 hu]; rfl) HM.out.1 HM.out.2 (Nat.le_trans HBr.out (by simp <;> omega)) ?_))
      intro v5 w5 hO5 hg5 ho5
      have HO5 := hid (show Own w5 B 4 v5 (bools (l ++ X.take (j + 1))) from by rw [HXj, ← List.append_assoc, bools_app]; exact hO5)
      have HF5 := hid ((HF.out.alloc _).trans (Fo.app hg5 (by simpa using ho5)))
      clear hO5 hg5 ho5 HO HF hbit
      go_wp2_with fail
      go_roundw
      case rel =>
        have e : (i : Int) - 1 = (k : Int) - 1 - ((j + 1 : Nat) : Int) := by have := HI.out; omega
        first
        | exact ⟨j + 1, by omega, congrArg (Value.int .i64) e, HO5, HF5⟩
        | (rw [e]; (repeat apply Exists.intro); exact ⟨⟨j + 1, by omega, rfl, HO5, HF5⟩, rfl⟩)
      case measure => have := HI.out; first | (simp [intOf]; done) | (simp [intOf]; omega)
    · obtain rfl : j = k := by omega
      have hlt' : ¬ (0 : Int) ≤ (j : Int) - 1 - (j : Int) := by omega
      have hXt : X.take j = X := List.take_of_length_le (by rw [HXl.out]; exact Nat.le_refl _)
      have HO2 := hid (show Own wr B 4 u0 (bools (l ++ X)) from by rw [← hXt]; exact HO.out)
      clear hXt
      go_wp2_with fail
      go_ret
      exact ⟨u0, rfl, HO2.out, HF.out⟩
end Go.Proofs.Ytpffffhgmhpkiaa
