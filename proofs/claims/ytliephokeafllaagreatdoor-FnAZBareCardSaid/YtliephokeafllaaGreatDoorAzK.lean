/- impl.AZBits: the small parts, and what the loops keep. -/
import Derived.Test.YtliephokeafllaaGreatDoorAzI
namespace Go.Proofs.YtliephokeafllaaGreatDoor
open Go.RowKit
set_option linter.unusedVariables false
set_option linter.unusedSimpArgs false

/-- The bits that have been taken so far. -/
def GotTo (c : Bool) (L : Nat) (b : List Bool) (i j n : Nat) (F : Nat → Bool) : Prop :=
  ∀ i' k' j' n', AzIn c L i' k' j' n' → (i' < i ∨ (i' = i ∧ (j' < j ∨ (j' = j ∧ n' < n)))) → F (azIdx c L i' k' j' n') = b.getD (azIdx c L i' k' j' n') false
def updF (F : Nat → Bool) (t : Nat) (v : Bool) : Nat → Bool := fun u => if u = t then v else F u
theorem GotTo.zero (c : Bool) (L : Nat) (b : List Bool) (F : Nat → Bool) : GotTo c L b 0 0 0 F := fun _ _ _ _ _ h => by omega
theorem GotTo.step {c : Bool} {L : Nat} {b : List Bool} {i j n : Nat} {F : Nat → Bool} (h : GotTo c L b i j n F) :
    GotTo c L b i j (n + 1) (updF (updF (updF (updF F (azIdx c L i 0 j n) (b.getD (azIdx c L i 0 j n) false)) (azIdx c L i 1 j n) (b.getD (azIdx c L i 1 j n) false)) (azIdx c L i 2 j n) (b.getD (azIdx c L i 2 j n) false)) (azIdx c L i 3 j n) (b.getD (azIdx c L i 3 j n) false)) := by
  intro i' k' j' n' h' hlt
  have key : ∀ u, (u = azIdx c L i 0 j n ∨ u = azIdx c L i 1 j n ∨ u = azIdx c L i 2 j n ∨ u = azIdx c L i 3 j n ∨ F u = b.getD u false) →
      updF (updF (updF (updF F (azIdx c L i 0 j n) (b.getD (azIdx c L i 0 j n) false)) (azIdx c L i 1 j n) (b.getD (azIdx c L i 1 j n) false)) (azIdx c L i 2 j n) (b.getD (azIdx c L i 2 j n) false)) (azIdx c L i 3 j n) (b.getD (azIdx c L i 3 j n) false) u = b.getD u false := by
    intro u hu
    unfold updF
    by_cases e3 : u = azIdx c L i 3 j n
    · rw [if_pos e3, e3]
    rw [if_neg e3]
    by_cases e2 : u = azIdx c L i 2 j n
    · rw [if_pos e2, e2]
    rw [if_neg e2]
    by_cases e1 : u = azIdx c L i 1 j n
    · rw [if_pos e1, e1]
    rw [if_neg e1]
    by_cases e0 : u = azIdx c L i 0 j n
    · rw [if_pos e0, e0]
    rw [if_neg e0]
    rcases hu with hu | hu | hu | hu | hu
    · exact absurd hu e0
    · exact absurd hu e1
    · exact absurd hu e2
    · exact absurd hu e3
    · exact hu
  apply key
  by_cases e : i' = i ∧ j' = j ∧ n' = n
  · obtain ⟨rfl, rfl, rfl⟩ := e
    rcases four h'.hk with rfl | rfl | rfl | rfl
    · exact .inl rfl
    · exact .inr (.inl rfl)
    · exact .inr (.inr (.inl rfl))
    · exact .inr (.inr (.inr (.inl rfl)))
  · exact .inr (.inr (.inr (.inr (h i' k' j' n' h' (by omega)))))
theorem GotTo.col {c : Bool} {L : Nat} {b : List Bool} {i j : Nat} {F : Nat → Bool} (h : GotTo c L b i j 2 F) : GotTo c L b i (j + 1) 0 F := fun i' k' j' n' h' hlt => h i' k' j' n' h' (by have := h'.hn; omega)
theorem GotTo.row {c : Bool} {L : Nat} {b : List Bool} {i : Nat} {F : Nat → Bool} (h : GotTo c L b i (azLong c L i) 0 F) : GotTo c L b (i + 1) 0 0 F := fun i' k' j' n' h' hlt => h i' k' j' n' h' (by
  rcases Nat.lt_or_ge i' i with h1 | h1
  · exact .inl h1
  · obtain rfl : i' = i := by omega
    exact .inr ⟨rfl, .inl h'.hj⟩)
theorem GotTo.all {c : Bool} {L : Nat} {b : List Bool} {F : Nat → Bool} (h : GotTo c L b L 0 0 F) (hb : b.length = azBitsN c L) : (List.range (azBitsN c L)).map (fun t => Value.bool (F t)) = b.map Value.bool := by
  apply List.ext_getElem
  · simp [hb]
  · intro t h1 h2
    simp only [List.length_map, List.length_range] at h1
    obtain ⟨i, k, j, n, hI, rfl⟩ := azIdx_onto h1
    simp only [List.getElem_map, List.getElem_range]
    rw [h i k j n hI (.inl hI.hi), List.getD, List.getElem?_eq_getElem (by simpa using h2)]
    rfl
theorem range_setB (S k : Nat) (v : Bool) (F : Nat → Bool) : ((List.range S).map fun t => Value.bool (F t)).set k (.bool v) = (List.range S).map fun t => Value.bool (updF F k v t) := by
  apply List.ext_getElem
  · simp
  · intro i h1 h2
    rw [List.getElem_set]
    simp only [List.getElem_map, List.getElem_range, updF]
    by_cases e : k = i
    · rw [if_pos e, if_pos e.symm]
    · rw [if_neg e, if_neg (fun h => e h.symm)]

/-- What the loops keep. -/
structure ExSt (w0 wr : World) (gA gR q g H rs : Nat) (ws : List Nat) (B : Nat → Nat → Bool) (pl : List Nat) (T : Nat) (F : Nat → Bool) : Prop where
  amap : Arr wr gA 3 (ints pl)
  res : Arr wr gR 4 ((List.range T).map fun t => Value.bool (F t))
  mat : IsMat wr q g 145 146 H H rs ws B
  bl : Below w0.heap.size w0 wr
structure ExSep (n0 gA gR q g : Nat) : Prop where
  a : n0 ≤ gA
  b : gA < gR
  c : q < n0
  d : g < n0
theorem ExSt.drew {w0 wr : World} {gA gR q g H rs : Nat} {ws : List Nat} {B : Nat → Nat → Bool} {pl : List Nat} {T : Nat} {F : Nat → Bool} (h : ExSt w0 wr gA gR q g H rs ws B pl T F) : ExSt w0 wr.drew gA gR q g H rs ws B pl T F :=
  ⟨h.amap, h.res, by have := h.mat.drewN 1; exact this, h.bl.drew⟩
theorem ExSt.drewN {w0 wr : World} {gA gR q g H rs : Nat} {ws : List Nat} {B : Nat → Nat → Bool} {pl : List Nat} {T : Nat} {F : Nat → Bool} (h : ExSt w0 wr gA gR q g H rs ws B pl T F) (n : Nat) : ExSt w0 (wr.drewN n) gA gR q g H rs ws B pl T F :=
  ⟨h.amap, h.res, h.mat.drewN n, below_drewN h.bl n⟩
theorem ExSt.store {w0 wr : World} {gA gR q g H rs : Nat} {ws : List Nat} {B : Nat → Nat → Bool} {pl : List Nat} {T : Nat} {F : Nat → Bool} (h : ExSt w0 wr gA gR q g H rs ws B pl T F) (hs : ExSep w0.heap.size gA gR q g) (t : Nat) (v : Bool) :
    ExSt w0 (wr.setCell ⟨gR, t, none⟩ (.bool v)) gA gR q g H rs ws B pl T (updF F t v) := by
  refine ⟨h.amap.far (by have := hs.b; simp; omega) _, ?_, ?_, h.bl.setCell (by have := hs.a; have := hs.b; simp; omega) _⟩
  · rw [← range_setB]; exact h.res.set t _
  · exact h.mat.below (C := w0.heap.size) ((Below.refl _ wr).setCell (by have := hs.a; have := hs.b; simp; omega) _) hs.c

theorem ExSt.place {w0 wr : World} {gA gR q g H rs : Nat} {ws : List Nat} {B : Nat → Nat → Bool} {pl : List Nat} {T : Nat} {F : Nat → Bool} (h : ExSt w0 wr gA gR q g H rs ws B pl T F) (hs : ExSep w0.heap.size gA gR q g) (u v : Nat) :
    ExSt w0 (wr.setCell ⟨gA, u, none⟩ (.int .i64 (v : Nat))) gA gR q g H rs ws B (pl.set u v) T F := by
  refine ⟨?_, h.res.far (by have := hs.b; simp; omega) _, ?_, h.bl.setCell (by have := hs.a; simp; omega) _⟩
  · rw [← ints_set]; exact h.amap.set u _
  · exact h.mat.below (C := w0.heap.size) ((Below.refl _ wr).setCell (by have := hs.a; simp; omega) _) hs.c
theorem ExSt.congr {w0 wr : World} {gA gR q g H rs : Nat} {ws : List Nat} {B : Nat → Nat → Bool} {pl pl' : List Nat} {T : Nat} {F : Nat → Bool} (h : ExSt w0 wr gA gR q g H rs ws B pl T F) (e : ints pl = ints pl') : ExSt w0 wr gA gR q g H rs ws B pl' T F :=
  ⟨by rw [← e]; exact h.amap, h.res, h.mat, h.bl⟩

theorem exNums {at_ lg co n j lo hh S a1 a2 a3 a4 t0 t1 t2 t3 : Nat} (hat : at_ ≤ 20000) (hlg : lg ≤ 200) (hn : n < 2) (hj : j < lg) (hco : co = 2 * j) (h1 : lo + lg + 2 ≤ S) (h2 : lg + lo + 1 ≤ hh) (h3 : hh + 1 ≤ S) (hS : S ≤ 200)
    (ha1 : a1 = lo + n) (ha2 : a2 = hh - n) (ha3 : a3 = lo + j) (ha4 : a4 = hh - j) (ht0 : t0 = at_ + 2 * lg * 0 + 2 * j + n) (ht1 : t1 = at_ + 2 * lg * 1 + 2 * j + n) (ht2 : t2 = at_ + 2 * lg * 2 + 2 * j + n) (ht3 : t3 = at_ + 2 * lg * 3 + 2 * j + n) :
    (a1 < S ∧ a2 < S ∧ a3 < S ∧ a4 < S) ∧ ((a1 : Int) < (S : Int) ∧ (a2 : Int) < (S : Int) ∧ (a3 : Int) < (S : Int) ∧ (a4 : Int) < (S : Int)) ∧
    IntKind.i64.wrap ((at_ : Int) + (co : Int)) = (at_ : Int) + (co : Int) ∧
    IntKind.i64.wrap ((at_ : Int) + (co : Int) + (n : Int)) = (t0 : Nat) ∧
    IntKind.i64.wrap (2 * (lg : Int)) = 2 * (lg : Int) ∧
    IntKind.i64.wrap ((at_ : Int) + 2 * (lg : Int)) = (at_ : Int) + 2 * (lg : Int) ∧
    IntKind.i64.wrap ((at_ : Int) + 2 * (lg : Int) + (co : Int)) = (at_ : Int) + 2 * (lg : Int) + (co : Int) ∧
    IntKind.i64.wrap ((at_ : Int) + 2 * (lg : Int) + (co : Int) + (n : Int)) = (t1 : Nat) ∧
    IntKind.i64.wrap (4 * (lg : Int)) = 4 * (lg : Int) ∧
    IntKind.i64.wrap ((at_ : Int) + 4 * (lg : Int)) = (at_ : Int) + 4 * (lg : Int) ∧
    IntKind.i64.wrap ((at_ : Int) + 4 * (lg : Int) + (co : Int)) = (at_ : Int) + 4 * (lg : Int) + (co : Int) ∧
    IntKind.i64.wrap ((at_ : Int) + 4 * (lg : Int) + (co : Int) + (n : Int)) = (t2 : Nat) ∧
    IntKind.i64.wrap (6 * (lg : Int)) = 6 * (lg : Int) ∧
    IntKind.i64.wrap ((at_ : Int) + 6 * (lg : Int)) = (at_ : Int) + 6 * (lg : Int) ∧
    IntKind.i64.wrap ((at_ : Int) + 6 * (lg : Int) + (co : Int)) = (at_ : Int) + 6 * (lg : Int) + (co : Int) ∧
    IntKind.i64.wrap ((at_ : Int) + 6 * (lg : Int) + (co : Int) + (n : Int)) = (t3 : Nat) ∧
    IntKind.i64.wrap ((lo : Int) + (n : Int)) = (a1 : Nat) ∧
    IntKind.i64.wrap ((hh : Int) - (n : Int)) = (a2 : Nat) ∧
    IntKind.i64.wrap ((lo : Int) + (j : Int)) = (a3 : Nat) ∧
    IntKind.i64.wrap ((hh : Int) - (j : Int)) = (a4 : Nat) := by
  have W : ∀ z : Int, -9223372036854775808 ≤ z → z ≤ 9223372036854775807 → IntKind.i64.wrap z = z := fun z a b => IntWalk.i64_in _ ⟨a, b⟩
  refine ⟨⟨?_, ?_, ?_, ?_⟩, ⟨?_, ?_, ?_, ?_⟩, ?_, ?_, ?_, ?_, ?_, ?_, ?_, ?_, ?_, ?_, ?_, ?_, ?_, ?_, ?_, ?_, ?_, ?_⟩
  all_goals first
    | omega
    | (rw [W _ (by omega) (by omega)]; omega)
    | exact W _ (by omega) (by omega)

theorem isCompactM (dd nb L : Nat) (c : Bool) (p : Value) (w : World) (hA : Arr w dd 82 [p, .bool c, .int .i64 (nb : Nat), .int .i64 (L : Nat)]) :
    Calls Tryz.prog 54 #[.pointer (some ⟨dd, 0, none⟩)] w fun e w' => e = .returned (.bool c) ∧ w = w' := by
  have c1 := hA.cell 1 (by simp)
  simp only [List.getElem_cons_zero, List.getElem_cons_succ] at c1
  clear hA
  go_enter Tryz.func54, Tryz.ntmps54
  go_wp2_with fail
  go_ret
  exact ⟨rfl, rfl⟩
theorem nbLayersM (dd nb L : Nat) (c : Bool) (p : Value) (w : World) (hA : Arr w dd 82 [p, .bool c, .int .i64 (nb : Nat), .int .i64 (L : Nat)]) :
    Calls Tryz.prog 55 #[.pointer (some ⟨dd, 0, none⟩)] w fun e w' => e = .returned (.int .i64 (L : Nat)) ∧ w = w' := by
  have c1 := hA.cell 3 (by simp)
  simp only [List.getElem_cons_zero, List.getElem_cons_succ] at c1
  clear hA
  go_enter Tryz.func55, Tryz.ntmps55
  go_wp2_with fail
  go_ret
  exact ⟨rfl, rfl⟩
theorem totalBitsM (c : Bool) (L : Nat) (hL : L ≤ 32) (w : World) : Calls Tryz.prog 56 #[.int .i64 (L : Nat), .bool c] w (fun e w' => e = .returned (.int .i64 (azBitsN c L : Nat)) ∧ w = w') := by
  have h1 : (88 + 16 * L) * L ≤ (88 + 16 * 32) * 32 := Nat.mul_le_mul (by omega) hL
  have h2 : (112 + 16 * L) * L ≤ (112 + 16 * 32) * 32 := Nat.mul_le_mul (by omega) hL
  have e1 : (88 + 16 * (L : Int)) * (L : Int) = (((88 + 16 * L) * L : Nat) : Int) := by simp
  have e2 : (112 + 16 * (L : Int)) * (L : Int) = (((112 + 16 * L) * L : Nat) : Int) := by simp
  unfold azBitsN
  generalize (88 + 16 * L) * L = x at *
  generalize (112 + 16 * L) * L = y at *
  have b1 : (88 + 16 * (L : Int)) * (L : Int) ≤ 20000 := by omega
  have b2 : (112 + 16 * (L : Int)) * (L : Int) ≤ 20000 := by omega
  have b3 : 0 ≤ (88 + 16 * (L : Int)) * (L : Int) := by omega
  have b4 : 0 ≤ (112 + 16 * (L : Int)) * (L : Int) := by omega
  have E1 := hid e1
  have E2 := hid e2
  clear e1 e2
  cases c
  · go_enter Tryz.func56, Tryz.ntmps56
    go_wp2_with fail
    go_ret
    exact ⟨by rw [E2.out]; rfl, rfl⟩
  · go_enter Tryz.func56, Tryz.ntmps56
    go_wp2_with fail
    go_ret
    exact ⟨by rw [E1.out]; rfl, rfl⟩
/-- A new result of the detector. -/
def DetOut (c : Bool) (nb L q : Nat) (w : World) (e : Ending) (w' : World) : Prop :=
  ∃ dd de, e = .returned (.pointer (some ⟨dd, 0, none⟩)) ∧ Arr w' dd 82 [.pointer (some ⟨de, 0, none⟩), .bool c, .int .i64 (nb : Nat), .int .i64 (L : Nat)] ∧ Arr w' de 109 [.pointer (some ⟨q, 0, none⟩), .slice none 0 0] ∧ Below w.heap.size w w' ∧ w.heap.size ≤ dd ∧ w.heap.size ≤ de
theorem newDrM (q : Nat) (w : World) : Calls Tryz.prog 47 #[.pointer (some ⟨q, 0, none⟩), .slice none 0 0] w (fun e w' => e = .returned (.pointer (some ⟨w.heap.size, 0, none⟩)) ∧ w' = w.alloc (.cells #[.pointer (some ⟨q, 0, none⟩), .slice none 0 0] 109)) := by
  go_enter Tryz.func47, Tryz.ntmps47
  go_wp2_with fail
  go_ret
  exact ⟨rfl, rfl⟩
theorem newDetM (c : Bool) (nb L q : Nat) (w : World) : Calls Tryz.prog 21 #[.pointer (some ⟨q, 0, none⟩), .slice none 0 0, .bool c, .int .i64 (nb : Nat), .int .i64 (L : Nat)] w (DetOut c nb L q w) := by
  have h1 := Arr.of_new w 109 #[.pointer (some ⟨q, 0, none⟩), .slice none 0 0]
  have h2 := Arr.of_new (w.alloc (.cells #[.pointer (some ⟨q, 0, none⟩), .slice none 0 0] 109)) 82 #[.pointer (some ⟨w.heap.size, 0, none⟩), .bool c, .int .i64 (nb : Nat), .int .i64 (L : Nat)]
  rw [show (w.alloc (.cells #[.pointer (some ⟨q, 0, none⟩), .slice none 0 0] 109)).heap.size = w.heap.size + 1 by simp] at h2
  have H1 := hid h1
  have H2 := hid h2
  clear h1 h2
  have HD := hid (newDrM q w)
  go_enter Tryz.func21, Tryz.ntmps21
  go_wp2_with fail
  refine HD.out.mono ?_
  rintro e w' ⟨rfl, rfl⟩
  go_wp2_with fail
  go_ret
  refine ⟨_, _, rfl, H2.out, H1.out.alloc _, ((Below.refl _ _).alloc (Nat.le_refl _) _).alloc (by simp) _, by simp, Nat.le_refl _⟩
end Go.Proofs.YtliephokeafllaaGreatDoor
