/- QR codes: FnRQJoins: results as they lie. -/
import Derived.Test.YtpffffhgmhpkiaaJnE
namespace Go.Proofs.Ytpffffhgmhpkiaa
open Go.RowKit Go.ChangeMaps Go.MapKept
set_option linter.unusedVariables false
set_option linter.unusedSimpArgs false

structure RV where
  t : List Nat
  r : List Nat
  g : Option (List (List Nat))
  s : Option Int
def GV (W : World) : Option Value → Option (List (List Nat)) → Prop
  | none, none => True
  | some v, some L => ∃ G c, v = .slice G L.length c ∧ RdL FB 1 W G L.length L
  | _, _ => False
def ResAt (W : World) (p : Nat) (q : RV) : Prop :=
  ∃ R c nb X xm xd m gv, Arr W p 117 (resC (.string (strOf q.t)) (.slice R q.r.length c) (.int .i64 nb) (.slice X xm xd) (.int .i64 11) m (.int .i64 0)) ∧ Rd W R q.r.length (u8s q.r) ∧ MetaAt W m gv q.s ∧ GV W gv q.g
def FR (W : World) (y : List Value) (q : RV) : Prop := ∃ p, y = [.pointer (some ⟨p, 0, none⟩)] ∧ p < W.heap.size ∧ ResAt W p q
theorem MetaAt.on {S : Nat → Prop} {w : World} {m : Value} {gv : Option Value} {s : Option Int} (h : MetaAt w m gv s) (hS : ∀ b, m = .map (some b) → S b) : On S w (fun W => MetaAt W m gv s) := fun w' a k => by
  rcases h with h | ⟨b, es, clk, rfl, hb, he⟩
  · exact .inl h
  · have hlt : b < w.heap.size := by
      rcases Nat.lt_or_ge b w.heap.size with hl | hl
      · exact hl
      · rw [Array.getElem?_eq_none hl] at hb; cases hb
    exact .inr ⟨b, es, clk, rfl, (k b hlt (hS b rfl)).trans hb, he⟩
theorem ResAt.on {S : Nat → Prop} {w : World} {p n c xm xd : Nat} {nb : Int} {R X : Option Addr} {m : Value} {gv : Option Value} {q : RV} (hn : n = q.r.length)
    (hA : Arr w p 117 (resC (.string (strOf q.t)) (.slice R n c) (.int .i64 nb) (.slice X xm xd) (.int .i64 11) m (.int .i64 0))) (hp : S p)
    (hR : Rd w R n (u8s q.r)) (hRS : 0 < n → ∀ a, R = some a → S a.block) (hM : MetaAt w m gv q.s) (hMS : ∀ b, m = .map (some b) → S b) (hG : On S w (fun W => GV W gv q.g)) :
    On S w (fun W => FR W [.pointer (some ⟨p, 0, none⟩)] q) := fun w' a k => by
  subst hn
  exact ⟨p, rfl, Nat.lt_of_lt_of_le hA.lt a, R, c, nb, X, xm, xd, m, gv, (k p hA.lt hp).trans hA, (On.rd hR hRS) w' a k, (hM.on hMS) w' a k, hG w' a k⟩
/-- A result in a list. -/
theorem RdL.res {W : World} {A : Option Addr} {n : Nat} {L : List RV} (h : RdL FR 1 W A n L) (k : Nat) (hk : k < n) : ∃ b o p q, A = some ⟨b, o, none⟩ ∧ b < W.heap.size ∧ L[k]? = some q ∧ W.cell? ⟨b, o + k, none⟩ = some (.pointer (some ⟨p, 0, none⟩)) ∧ p < W.heap.size ∧ ResAt W p q := by
  obtain ⟨b, o, x, y, e, hb, hx, hl, hc, p, rfl, hp, h2⟩ := h.at_ k hk
  exact ⟨b, o, p, x, e, hb, hx, by have := hc 0 _ rfl; rwa [Nat.mul_one, Nat.add_zero] at this, hp, h2⟩
section
set_option maxRecDepth 20000
variable {w : World} {p : Nat} {t R nb rp f m ts : Value}
theorem getTQ (hA : Arr w p 117 (resC t R nb rp f m ts)) : Calls Try.prog 30 #[.pointer (some ⟨p, 0, none⟩)] w fun e w' => e = .returned t ∧ w = w' := by
  have c0 : w.cell? ⟨p, 0, none⟩ = some t := hA.cell? 0
  have hlt := hA.lt
  clear hA
  go_enter Try.func30, Try.ntmps30
  go_wp2_with fail
  go_ret
  exact ⟨rfl, rfl⟩
theorem getRQ (hA : Arr w p 117 (resC t R nb rp f m ts)) : Calls Try.prog 31 #[.pointer (some ⟨p, 0, none⟩)] w fun e w' => e = .returned R ∧ w = w' := by
  have c0 : w.cell? ⟨p, 1, none⟩ = some R := hA.cell? 1
  have hlt := hA.lt
  clear hA
  go_enter Try.func31, Try.ntmps31
  go_wp2_with fail
  go_ret
  exact ⟨rfl, rfl⟩
theorem getMQ (hA : Arr w p 117 (resC t R nb rp f m ts)) : Calls Try.prog 32 #[.pointer (some ⟨p, 0, none⟩)] w fun e w' => e = .returned m ∧ w = w' := by
  have c0 : w.cell? ⟨p, 5, none⟩ = some m := hA.cell? 5
  have hlt := hA.lt
  clear hA
  go_enter Try.func32, Try.ntmps32
  go_wp2_with fail
  go_ret
  exact ⟨rfl, rfl⟩
end
end Go.Proofs.Ytpffffhgmhpkiaa
