/- QR codes: FnRQJoins: words for the joining. -/
import Derived.Test.YtpffffhgmhpkiaaJnP
import Derived.Laws.CopyOwn
import Derived.Lib.ConvBytes
namespace Go.Proofs.Ytpffffhgmhpkiaa
open Go.RowKit
set_option linter.unusedVariables false
set_option linter.unusedSimpArgs false

/-- The blocks below a number. -/
def Bel (B : Nat) : Nat → Prop := fun g => g < B
def rv0 : RV := ⟨[], [], none, none⟩
section
variable {S T : Nat → Prop} {w w' : World} {Φ : World → Prop}
theorem On.bl (h : On Al w Φ) : On (Bel w.heap.size) w Φ := h.mono (fun g h1 _ => h1)
theorem On.unbl {B : Nat} (h : On (Bel B) w Φ) : On Al w Φ := h.mono (fun _ _ _ => trivial)
end
section
variable {α : Type} {F : World → List Value → α → Prop} {sz : Nat} {S T : Nat → Prop} {w w' : World} {B : Nat} {e : TypeId} {v : Value} {L : List α}
theorem OwnL.mono (h : OwnL F sz S w B e v L) (hs : ∀ g, S g → T g) : OwnL F sz T w B e v L := by
  obtain ⟨ys, h0, hy, h1, hF⟩ := h
  exact ⟨ys, h0, hy, h1, hF.mono (fun g _ h2 => ⟨hs g h2.1, h2.2⟩)⟩
theorem OwnL.grown {row : Option Nat} (h : OwnL F sz S w B e v L) (hg : w.grownBy w' row) (hne : v.ownBlock = none ∨ v.ownBlock ≠ row) (hS : ∀ k, row = some k → ¬ S k) : OwnL F sz S w' B e v L := by
  obtain ⟨ys, h0, hy, h1, hF⟩ := h
  exact ⟨ys, h0, hy, World.ownsRow.kept h1 hg hne, hF.step hg.size (fun g h1 h2 => hg.block g h1 (fun e => hS g e.symm h2.1))⟩
theorem OwnL.kp {N q : Nat} (h : OwnL F sz S w B e v L) (hk : Kp N q w w') (hN : w.heap.size ≤ N) (hq : v.ownBlock ≠ some q) (hS : ¬ S q) : OwnL F sz S w' B e v L := by
  obtain ⟨ys, h0, hy, h1, hF⟩ := h
  refine ⟨ys, h0, hy, ?_, hF.step hk.size (fun g h1 h2 => hk.block g (by omega) (fun e => hS (e ▸ h2.1)))⟩
  refine ⟨h1.1, ?_⟩
  rcases h1.2 with h2 | ⟨g, cap, cur, hv, hg, hh, r⟩
  · exact .inl h2
  · refine .inr ⟨g, cap, cur, hv, hg, ?_, r⟩
    have := (World.ownsRow.lt h1 g (by rw [hv]; rfl)).2
    rw [hk.block g (by omega) (fun e => hq (by rw [hv, e]; rfl))]; exact hh
theorem OwnL.drewN (h : OwnL F sz S w B e v L) (k : Nat) : OwnL F sz S (w.drewN k) B e v L := h.below (⟨rfl, rfl, rfl, Nat.le_refl _, fun _ _ => rfl⟩ : Below w.heap.size w (w.drewN k)) (Nat.le_refl _)
theorem OwnL.made (h : w.ownsRow B e sz v 0 []) : OwnL F sz S w B e v [] := ⟨[], rfl, fun y hy => by simp at hy, h, fun w' _ _ k x y hx => by simp at hx⟩
end
/-- A result in a list, and that it stays. -/
theorem resOn {w : World} {A : Option Addr} {N : Nat} {L : List RV} (h : On Al w (fun W => RdL FR 1 W A N L)) (k : Nat) (hk : k < N) :
    ∃ b o p, A = some ⟨b, o, none⟩ ∧ b < w.heap.size ∧ w.cell? ⟨b, o + k, none⟩ = some (.pointer (some ⟨p, 0, none⟩)) ∧ p < w.heap.size ∧ On (Bel w.heap.size) w (fun W => ResAt W p (L.getD k rv0)) := by
  obtain ⟨b, o, p, q, hA, hb, hq, hc, hp, hr⟩ := h.here.res k hk
  refine ⟨b, o, p, hA, hb, hc, hp, fun W a k' => ?_⟩
  obtain ⟨b2, o2, p2, q2, hA2, hb2, hq2, hc2, hp2, hr2⟩ := (h.bl W a k').res k hk
  rw [hA] at hA2
  injection hA2 with e1
  injection e1 with e1 e2
  subst e1; subst e2
  rw [World.cell?_of_block (a := ⟨b, o + k, none⟩) (k' b hb hb), hc] at hc2
  injection hc2 with e3
  injection e3 with e3
  injection e3 with e3
  injection e3 with e3
  subst e3
  have : L.getD k rv0 = q2 := by rw [List.getD, hq2]; rfl
  rw [this]
  exact hr2
theorem On.fr_ {S : Nat → Prop} {w : World} {p : Nat} {q : RV} (h : On S w (fun W => ResAt W p q)) (hp : p < w.heap.size) : On S w (fun W => FR W [.pointer (some ⟨p, 0, none⟩)] q) :=
  fun W a k => ⟨p, rfl, by omega, h W a k⟩
theorem flat_len_filter {α β : Type} (f : α → List β) (p : α → Bool) : ∀ L : List α, ((L.filter p).flatMap f).length ≤ (L.flatMap f).length
  | [] => by simp
  | x :: L => by
    have ih := flat_len_filter f p L
    rw [List.filter_cons]
    split
    · simp only [List.flatMap_cons, List.length_append]; omega
    · simp only [List.flatMap_cons, List.length_append]; omega
theorem flat_len_take {α β : Type} (f : α → List β) (S : List α) (i : Nat) : ((S.take i).flatMap f).length ≤ (S.flatMap f).length := by
  conv => rhs; rw [← List.take_append_drop i S, List.flatMap_append, List.length_append]
  omega
theorem flat_len_perm {α β : Type} (f : α → List β) {S T : List α} (h : S.Perm T) : (S.flatMap f).length = (T.flatMap f).length := (List.Perm.flatMap_right f h).length_eq
theorem flatMap_take {α β : Type} (f : α → List β) (S : List α) (i : Nat) (d : α) (h : i < S.length) : (S.take (i + 1)).flatMap f = (S.take i).flatMap f ++ f (S.getD i d) := by
  rw [List.take_succ_eq_append_getElem h, List.flatMap_append, List.getD, List.getElem?_eq_getElem h]; simp
theorem filter_take {α : Type} (p : α → Bool) (L : List α) (i : Nat) (d : α) (h : i < L.length) : (L.take (i + 1)).filter p = (L.take i).filter p ++ (if p (L.getD i d) then [L.getD i d] else []) := by
  rw [List.take_succ_eq_append_getElem h, List.filter_append, List.getD, List.getElem?_eq_getElem h]
  simp only [Option.getD_some, List.filter_cons, List.filter_nil]
/-- A row filled from the front, and what is put behind. -/
def fil (l : List Nat) (n : Nat) : List Value := u8s (l ++ List.replicate (n - l.length) 0)
theorem fil_len (l : List Nat) (n : Nat) (h : l.length ≤ n) : (fil l n).length = n := by simp [fil, u8s_len]; omega
theorem fil_put (l x : List Nat) (n : Nat) (h : l.length + x.length ≤ n) : splice (fil l n) l.length (u8s x) = fil (l ++ x) n := by
  unfold splice fil
  rw [u8s_append, u8s_append, u8s_append, List.length_append]
  rw [List.take_append_of_le_length (by rw [u8s_len]; omega), List.take_of_length_le (by rw [u8s_len]; omega), List.append_assoc]
  congr 2
  rw [List.drop_append, List.drop_eq_nil_of_le (by rw [u8s_len]; omega), List.nil_append, u8s_len, u8s_len]
  unfold u8s
  rw [← List.map_drop, List.drop_replicate]
  congr 2
  omega
theorem fil_full (l : List Nat) (n : Nat) (h : l.length = n) : fil l n = u8s l := by simp [fil, h]
theorem fil_zero (n : Nat) : fil [] n = List.replicate n (.int .u8 0) := by simp [fil, u8s]
end Go.Proofs.Ytpffffhgmhpkiaa
