/- The reader's small functions: Itoa of small numbers, two bytes in three values, reads of the bit source. -/
import Derived.Test.YtfmjkflihnfneaaDoorDnO
namespace Go.Proofs.YtfmjkflihnfneaaDoor
open Go.RowKit
set_option linter.unusedVariables false
set_option linter.unusedSimpArgs false

theorem itoaM (d : Nat) (hd : d < 100) (w : World) : Calls Tryd.prog 48 #[.int .i64 (d : Nat)] w (fun e w' => e = .returned (.string (strOf (numL d))) ∧ w = w') := by
  have H63 : ∀ W, Calls Tryd.prog 63 #[.int .i64 (d : Nat), .int .i64 10] W (fun e w' => e = .returned (.string (strOf (numL d))) ∧ W = w') := by
    intro W
    have H := hid (fun V => smallM d hd V)
    generalize strOf (numL d) = s at *
    have h1 : (0 : Int) ≤ (d : Int) := by omega
    have h2 : (d : Int) < 100 := by omega
    go_enter Tryd.func63, Tryd.ntmps63
    go_wp2_with (go_at_call 64; ((with_reducible refine (H.out _).mono ?_); rintro e w' ⟨rfl, rfl⟩))
    go_ret
    exact ⟨rfl, rfl⟩
  have H62 : ∀ W, Calls Tryd.prog 62 #[.int .i64 (d : Nat)] W (fun e w' => e = .returned (.string (strOf (numL d))) ∧ W = w') := by
    intro W
    have H := hid H63
    generalize strOf (numL d) = s at *
    clear H63
    go_enter Tryd.func62, Tryd.ntmps62
    go_wp2_with (go_at_call 63; ((with_reducible refine (H.out _).mono ?_); rintro e w' ⟨rfl, rfl⟩))
    go_ret
    exact ⟨rfl, rfl⟩
  have H := hid H62
  generalize strOf (numL d) = s at *
  clear H63 H62
  go_enter Tryd.func48, Tryd.ntmps48
  go_wp2_with (go_at_call 62; ((with_reducible refine (H.out _).mono ?_); rintro e w' ⟨rfl, rfl⟩))
  go_ret
  exact ⟨rfl, rfl⟩

set_option maxRecDepth 20000 in
theorem twoM (x y z : Nat) (hx : x < 40) (hy : y < 40) (hz : z < 40) (g : Nat) (a b c : Int) (w : World) (hA : Arr w g 3 [.int .i64 a, .int .i64 b, .int .i64 c]) :
    Calls Tryd.prog 50 #[.int .i64 ((1600 * x + 40 * y + z + 1) / 256 : Nat), .int .i64 ((1600 * x + 40 * y + z + 1) % 256 : Nat), .slice (some ⟨g, 0, none⟩) 3 3] w (fun e w' => e = .returned (.tuple #[]) ∧ Arr w' g 3 (ints [x, y, z]) ∧ w.grownBy w' (some g)) := by
  obtain ⟨V, hV⟩ : ∃ V, V = 1600 * x + 40 * y + z + 1 := ⟨_, rfl⟩
  rw [← hV]
  obtain ⟨P, hP⟩ : ∃ P, P = V / 256 := ⟨_, rfl⟩
  obtain ⟨Q, hQ⟩ : ∃ Q, Q = V % 256 := ⟨_, rfl⟩
  rw [← hP, ← hQ]
  have e1 : (P : Int) * 256 + (Q : Int) - 1 = (V : Int) - 1 := by omega
  have e2 : ((V : Int) - 1).tdiv 1600 = (x : Nat) := by
    rw [Int.tdiv_eq_ediv_of_nonneg (by omega)]; omega
  have e2' : ((V : Int) - 1) / 1600 = (x : Nat) := by omega
  have e3 : (V : Int) - 1 - (x : Int) * 1600 = ((40 * y + z : Nat) : Int) := by omega
  obtain ⟨T, hT⟩ : ∃ T, T = 40 * y + z := ⟨_, rfl⟩
  rw [← hT] at e3
  have e4 : (T : Int) / 40 = (y : Nat) := by omega
  have e5 : (T : Int) - (y : Int) * 40 = (z : Nat) := by omega
  have hPl : P < 256 := by omega
  have hQl : Q < 256 := by omega
  have hVl : V ≤ 65536 := by omega
  have hTl : T ≤ 1600 := by omega
  have HS := hid (((hA.set 0 (.int .i64 (x : Nat))).set 1 (.int .i64 (y : Nat))).set 2 (.int .i64 (z : Nat)))
  have HG := hid (gSet (gSet (gSet (World.grownBy.refl w (some g)) 0 (.int .i64 (x : Nat))) 1 (.int .i64 (y : Nat))) 2 (.int .i64 (z : Nat)))
  have d0 := hA.cell? 0
  have d1 := hA.cell? 1
  have d2 := hA.cell? 2
  have f0 := hA.frozen 0
  have f1 := hA.frozen 1
  have f2 := hA.frozen 2
  simp only [List.getElem?_cons_zero, List.getElem?_cons_succ] at d0 d1 d2
  clear hV hP hQ hT hA
  go_enter Tryd.func50, Tryd.ntmps50
  go_wp2_with fail
  go_end0
  exact ⟨rfl, HS.out, HG.out⟩

theorem readM (q : Nat) (A : Option Addr) (n c p : Nat) (l : List Nat) (m : Nat) (w : World) (h : Src w q A n c p) (hn : n ≤ 4000) (hR : Rd w A n (u8s l)) (hb : ∀ j, l.getD j 0 < 256) (hq : ∀ a, A = some a → a.block ≠ q) (hm1 : 1 ≤ m) (hm2 : m ≤ 32) (hm3 : p + m ≤ 8 * n) :
    Calls Tryd.prog 47 #[.pointer (some ⟨q, 0, none⟩), .int .i64 m] w (fun e w' => e = .returned (.tuple #[.int .i64 (rdn l p m : Nat), .nilIface]) ∧ Src w' q A n c (p + m) ∧ w.grownBy w' (some q)) := by
  have H : Calls Tryd.prog 47 #[.pointer (some ⟨q, 0, none⟩), .int .i64 m] w (ReadOut l q A n c p m w) := by
    by_cases h0 : p % 8 = 0
    · exact readBits_A q A n c p l m w h (by omega) hn hR hb hq hm1 hm2 (by omega) h0
    · by_cases h1 : m < 8 - p % 8
      · exact readBits_B q A n c p l m w h (by omega) hn hR hb hm1 hm2 (by omega) (by omega) h1
      · exact readBits_C q A n c p l m w h (by omega) hn hR hb hq hm1 hm2 (by omega) (by omega) (by omega)
  refine H.mono ?_
  rintro e w' ⟨er, rfl, her, hS, hg⟩
  have hok : okw n p m = true := by simp only [okw, decide_eq_true_eq]; omega
  rw [hok] at her hS ⊢
  rcases her with ⟨rfl, _⟩ | ⟨_, h⟩
  · exact ⟨by simp, by simpa using hS, hg⟩
  · cases h
theorem read8M (q : Nat) (A : Option Addr) (n c p : Nat) (l : List Nat) (w : World) (h : Src w q A n c (8 * p)) (hn : n ≤ 4000) (hR : Rd w A n (u8s l)) (hb : ∀ j, l.getD j 0 < 256) (hq : ∀ a, A = some a → a.block ≠ q) (hp : p < n) :
    Calls Tryd.prog 47 #[.pointer (some ⟨q, 0, none⟩), .int .i64 8] w (fun e w' => e = .returned (.tuple #[.int .i64 (l.getD p 0 : Nat), .nilIface]) ∧ Src w' q A n c (8 * (p + 1)) ∧ w.grownBy w' (some q)) := by
  have H := readM q A n c (8 * p) l 8 w h hn hR hb hq (by omega) (by omega) (by omega)
  have e : rdn l (8 * p) 8 = l.getD p 0 := by
    rw [rdn_in l (8 * p) 8 (by omega), show 8 * p / 8 = p from by omega, show 8 - 8 * p % 8 - 8 = 0 from by omega, Nat.pow_zero, Nat.div_one]
    exact Nat.mod_eq_of_lt (hb p)
  rw [e, show 8 * p + 8 = 8 * (p + 1) from by omega] at H
  exact H

/-- What a call of the reader keeps: all blocks below B but the source's. -/
structure Kp (B q : Nat) (w w' : World) : Prop where
  os : w'.os = w.os
  tape : w'.tape = w.tape
  output : w'.output = w.output
  size : w.heap.size ≤ w'.heap.size
  block : ∀ g, g < B → g ≠ q → w'.heap[g]? = w.heap[g]?
theorem Kp.refl (B q : Nat) (w : World) : Kp B q w w := ⟨rfl, rfl, rfl, Nat.le_refl _, fun _ _ _ => rfl⟩
theorem Kp.trans {B q : Nat} {a b c : World} (h : Kp B q a b) (k : Kp B q b c) : Kp B q a c :=
  ⟨k.os.trans h.os, k.tape.trans h.tape, k.output.trans h.output, Nat.le_trans h.size k.size, fun g h1 h2 => (k.block g h1 h2).trans (h.block g h1 h2)⟩
theorem Kp.alloc {B q : Nat} {w w' : World} (h : Kp B q w w') (hB : B ≤ w'.heap.size) (o : Obj) : Kp B q w (w'.alloc o) :=
  h.trans ⟨rfl, rfl, rfl, by simp, fun g h1 _ => Below.heap_alloc w' o g (Nat.lt_of_lt_of_le h1 hB)⟩
theorem Kp.drewN {B q : Nat} {w w' : World} (h : Kp B q w w') (n : Nat) : Kp B q w (w'.drewN n) := ⟨h.os, h.tape, h.output, h.size, h.block⟩
theorem Kp.src {B q : Nat} {w w1 w' : World} (h : Kp B q w w1) (hB : B ≤ w1.heap.size) (hg : w1.grownBy w' (some q)) : Kp B q w w' :=
  h.trans ⟨hg.os, hg.tape, hg.output, hg.size, fun g h1 h2 => hg.block g (Nat.lt_of_lt_of_le h1 hB) (fun e => h2 (by injection e))⟩
theorem Kp.own {B q : Nat} {w w1 w' : World} {r : Option Nat} (h : Kp B q w w1) (hB : B ≤ w1.heap.size) (hg : w1.grownBy w' r) (hr : ∀ j, r = some j → B ≤ j) : Kp B q w w' :=
  h.trans ⟨hg.os, hg.tape, hg.output, hg.size, fun g h1 h2 => hg.block g (Nat.lt_of_lt_of_le h1 hB) (fun e => by have := hr g e.symm; omega)⟩
theorem Kp.below {B q : Nat} {w w1 w' : World} (h : Kp B q w w1) (hb : Below B w1 w') : Kp B q w w' :=
  h.trans ⟨hb.os, hb.tape, hb.output, hb.size, fun g h1 _ => hb.block g h1⟩
theorem Kp.toBelow {B q C : Nat} {w w' : World} (h : Kp B q w w') (hC : C ≤ B) (hq : C ≤ q) : Below C w w' :=
  ⟨h.os, h.tape, h.output, h.size, fun g hg => h.block g (by omega) (by omega)⟩
theorem Kp.rd {B q : Nat} {w w' : World} {A : Option Addr} {n : Nat} {l : List Value} (h : Kp B q w w') (hR : Rd w A n l) (hA : ∀ a, A = some a → a.block < B ∧ a.block ≠ q) : Rd w' A n l :=
  ⟨hR.1, fun hn => by
    obtain ⟨b, o, hAe, hb, hc⟩ := hR.2 hn
    obtain ⟨h1, h2⟩ := hA _ hAe
    exact ⟨b, o, hAe, Nat.lt_of_lt_of_le hb h.size, fun k hk => (World.cell?_of_block (w := w) (h.block b h1 h2)).trans (hc k hk)⟩⟩
theorem Src.own {w w' : World} {q : Nat} {A : Option Addr} {n c p : Nat} {r : Option Nat} (h : Src w q A n c p) (hg : w.grownBy w' r) (hr : some q ≠ r) : Src w' q A n c p := Arr.grown h hg hr
theorem Own.src {w w' : World} {B : Nat} {e : TypeId} {v : Value} {xs : List Value} {q : Nat} (h : Own w B e v xs) (hg : w.grownBy w' (some q)) (hq : q < B) : Own w' B e v xs :=
  h.keep hg (.inr (fun e => by have := (h.lt q e).1; omega))
end Go.Proofs.YtfmjkflihnfneaaDoor
