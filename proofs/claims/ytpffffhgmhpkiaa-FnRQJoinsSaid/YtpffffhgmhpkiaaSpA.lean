/- QR codes: words for the reader of segments. -/
import Derived.Test.YtpffffhgmhpkiaaQsL
import Derived.Test.YtpffffhgmhpkiaaDnA
namespace Go.Proofs.Ytpffffhgmhpkiaa
open Go.RowKit
set_option linter.unusedVariables false
set_option linter.unusedSimpArgs false

theorem readM (q : Nat) (A : Option Addr) (n c p : Nat) (l : List Nat) (m : Nat) (w : World) (h : Src w q A n c p) (hn : n ≤ 4000) (hR : Rd w A n (u8s l)) (hb : ∀ j, l.getD j 0 < 256) (hq : ∀ a, A = some a → a.block ≠ q) (hm1 : 1 ≤ m) (hm2 : m ≤ 32) (hm3 : p + m ≤ 8 * n) :
    Calls Try.prog 91 #[.pointer (some ⟨q, 0, none⟩), .int .i64 m] w (fun e w' => e = .returned (.tuple #[.int .i64 (rdn l p m : Nat), .nilIface]) ∧ Src w' q A n c (p + m) ∧ w.grownBy w' (some q)) := by
  have H : Calls Try.prog 91 #[.pointer (some ⟨q, 0, none⟩), .int .i64 m] w (ReadOut l q A n c p m w) := by
    by_cases h0 : p % 8 = 0
    · exact readBits_A q A n c p l m w h (by omega) hn hR hb hq hm1 hm2 (by omega) h0
    · by_cases h1 : m < 8 - p % 8
      · exact readBits_B q A n c p l m w h (by omega) hn hR hb hm1 hm2 (by omega) (by omega) h1
      · exact readBits_C q A n c p l m w h (by omega) hn hR hb hq hm1 hm2 (by omega) (by omega) (by omega)
  refine H.mono ?_
  rintro e w' ⟨er, rfl, her, hS, hg⟩
  have hok : okw n p m = true := by simp only [okw, decide_eq_true_eq]; omega
  rw [hok] at her hS ⊢
  rcases her with ⟨rfl, _⟩ | ⟨_, h⟩
  · exact ⟨by simp, by simpa using hS, hg⟩
  · cases h
/-- What a call of the reader keeps: all blocks below B but the source's. -/
structure Kp (B q : Nat) (w w' : World) : Prop where
  os : w'.os = w.os
  tape : w'.tape = w.tape
  output : w'.output = w.output
  size : w.heap.size ≤ w'.heap.size
  block : ∀ g, g < B → g ≠ q → w'.heap[g]? = w.heap[g]?
theorem Kp.refl (B q : Nat) (w : World) : Kp B q w w := ⟨rfl, rfl, rfl, Nat.le_refl _, fun _ _ _ => rfl⟩
theorem Kp.trans {B q : Nat} {a b c : World} (h : Kp B q a b) (k : Kp B q b c) : Kp B q a c :=
  ⟨k.os.trans h.os, k.tape.trans h.tape, k.output.trans h.output, Nat.le_trans h.size k.size, fun g h1 h2 => (k.block g h1 h2).trans (h.block g h1 h2)⟩
theorem Kp.alloc {B q : Nat} {w w' : World} (h : Kp B q w w') (hB : B ≤ w'.heap.size) (o : Obj) : Kp B q w (w'.alloc o) :=
  h.trans ⟨rfl, rfl, rfl, by simp, fun g h1 _ => Below.heap_alloc w' o g (Nat.lt_of_lt_of_le h1 hB)⟩
theorem Kp.drewN {B q : Nat} {w w' : World} (h : Kp B q w w') (n : Nat) : Kp B q w (w'.drewN n) := ⟨h.os, h.tape, h.output, h.size, h.block⟩
theorem Kp.src {B q : Nat} {w w1 w' : World} (h : Kp B q w w1) (hB : B ≤ w1.heap.size) (hg : w1.grownBy w' (some q)) : Kp B q w w' :=
  h.trans ⟨hg.os, hg.tape, hg.output, hg.size, fun g h1 h2 => hg.block g (Nat.lt_of_lt_of_le h1 hB) (fun e => h2 (by injection e))⟩
theorem Kp.own {B q : Nat} {w w1 w' : World} {r : Option Nat} (h : Kp B q w w1) (hB : B ≤ w1.heap.size) (hg : w1.grownBy w' r) (hr : ∀ j, r = some j → B ≤ j) : Kp B q w w' :=
  h.trans ⟨hg.os, hg.tape, hg.output, hg.size, fun g h1 h2 => hg.block g (Nat.lt_of_lt_of_le h1 hB) (fun e => by have := hr g e.symm; omega)⟩
theorem Kp.below {B q : Nat} {w w1 w' : World} (h : Kp B q w w1) (hb : Below B w1 w') : Kp B q w w' :=
  h.trans ⟨hb.os, hb.tape, hb.output, hb.size, fun g h1 _ => hb.block g h1⟩
theorem Kp.toBelow {B q C : Nat} {w w' : World} (h : Kp B q w w') (hC : C ≤ B) (hq : C ≤ q) : Below C w w' :=
  ⟨h.os, h.tape, h.output, h.size, fun g hg => h.block g (by omega) (by omega)⟩
theorem Kp.rd {B q : Nat} {w w' : World} {A : Option Addr} {n : Nat} {l : List Value} (h : Kp B q w w') (hR : Rd w A n l) (hA : ∀ a, A = some a → a.block < B ∧ a.block ≠ q) : Rd w' A n l :=
  ⟨hR.1, fun hn => by
    obtain ⟨b, o, hAe, hb, hc⟩ := hR.2 hn
    obtain ⟨h1, h2⟩ := hA _ hAe
    exact ⟨b, o, hAe, Nat.lt_of_lt_of_le hb h.size, fun k hk => (World.cell?_of_block (w := w) (h.block b h1 h2)).trans (hc k hk)⟩⟩
theorem Src.own {w w' : World} {q : Nat} {A : Option Addr} {n c p : Nat} {r : Option Nat} (h : Src w q A n c p) (hg : w.grownBy w' r) (hr : some q ≠ r) : Src w' q A n c p := Arr.grown h hg hr
theorem Own.src {w w' : World} {B : Nat} {e : TypeId} {v : Value} {xs : List Value} {q : Nat} (h : Own w B e v xs) (hg : w.grownBy w' (some q)) (hq : q < B) : Own w' B e v xs :=
  h.keep hg (.inr (fun e => by have := (h.lt q e).1; omega))
/-- Where the words lie, and what lies below the call's own blocks. -/
structure Rdr (W : List Nat) (A : Option Addr) (c q B : Nat) (w : World) : Prop where
  rd : Rd w A W.length (u8s W)
  lt : ∀ j, W.getD j 0 < 256
  n : W.length ≤ 4000
  ab : ∀ a, A = some a → a.block < B ∧ a.block ≠ q
  qb : q < B
  bs : B ≤ w.heap.size
theorem Rdr.kp {W : List Nat} {A : Option Addr} {c q B : Nat} {w w' : World} (h : Rdr W A c q B w) (hk : Kp B q w w') : Rdr W A c q B w' :=
  ⟨hk.rd h.rd h.ab, h.lt, h.n, h.ab, h.qb, Nat.le_trans h.bs hk.size⟩
theorem Fr.srcG {q : Nat} {v v' : Value} {w w' w'' : World} (h : Fr q v w v' w') (hg : w'.grownBy w'' (some q)) : Fr q v w v' w'' :=
  ⟨Nat.le_trans h.1 hg.size, fun g h1 h2 h3 => ⟨(hg.block g (Nat.lt_of_lt_of_le h1 h.1) (fun e => h2 (by injection e))).trans (h.2 g h1 h2 h3).1, (h.2 g h1 h2 h3).2⟩⟩
theorem Fr.newG {q k : Nat} {v v' : Value} {w w' w'' : World} (h : Fr q v w v' w') (hg : w'.grownBy w'' (some k)) (hk : w.heap.size ≤ k) : Fr q v w v' w'' :=
  ⟨Nat.le_trans h.1 hg.size, fun g h1 h2 h3 => ⟨(hg.block g (Nat.lt_of_lt_of_le h1 h.1) (fun e => by injection e with e; omega)).trans (h.2 g h1 h2 h3).1, (h.2 g h1 h2 h3).2⟩⟩
theorem Fr.app {w w' : World} {v v' : Value} (q : Nat) (hg : w.grownBy w' v.ownBlock) (ho : v'.ownBlock = v.ownBlock ∨ v'.ownBlock = some w.heap.size) : Fr q v w v' w' :=
  ⟨hg.size, fun g h1 h2 h3 => ⟨hg.block g h1 (fun e => h3 e.symm), by
    rcases ho with e | e
    · rw [e]; exact h3
    · rw [e]; intro h; cases h; omega⟩⟩
theorem Rd.grown {w w' : World} {A : Option Addr} {n : Nat} {l : List Value} {r : Option Nat} (h : Rd w A n l) (hg : w.grownBy w' r) (hne : ∀ a, A = some a → some a.block ≠ r) : Rd w' A n l :=
  ⟨h.1, fun hn => by
    obtain ⟨b, o, hA, hb, hc⟩ := h.2 hn
    exact ⟨b, o, hA, Nat.lt_of_lt_of_le hb hg.size, fun k hk => (World.cell?_of_block (w := w) (hg.block b hb (hne _ hA))).trans (hc k hk)⟩⟩
end Go.Proofs.Ytpffffhgmhpkiaa
