/- The walks of a field's polynomials and of the field itself: what the package makes. -/
import Derived.Test.YtpkmknbmjlnkgaaProg
import Derived.Test.YtpkmknbmjlnkgaaMem
import Derived.Test.YtpkmknbmjlnkgaaBits
import Derived.Test.YtpkmknbmjlnkgaaGF
import Derived.BigQuiet
import Derived.Deep.QuietTactic
import Derived.KernelRfl
namespace Go.Proofs.Ytpkmknbmjlnkgaa
open Go.RowKit
set_option linter.unusedVariables false

/-- Numbers as the cells of a list of ints. -/
def ints (l : List Nat) : List Value := l.map fun x => .int .i64 (x : Nat)
theorem ints_length (l : List Nat) : (ints l).length = l.length := by simp [ints]
theorem ints_one (l : List Nat) : ∀ u ∈ ints l, u.oneCell' = true := by
  intro u hu
  obtain ⟨b, _, rfl⟩ := List.mem_map.1 hu
  rfl
theorem rd_int {w : World} {A : Option Addr} {n : Nat} {l : List Nat} (h : Rd w A n (ints l)) (k : Nat) (hk : k < n) :
    ∃ b o, A = some ⟨b, o, none⟩ ∧ b < w.heap.size ∧ w.cell? ⟨b, o + k, none⟩ = some (.int .i64 (l.getD k 0 : Nat)) := by
  obtain ⟨b, o, hA, hb, hc⟩ := h.2 (by omega)
  have hl : l.length = n := by have := h.1; simpa [ints] using this
  refine ⟨b, o, hA, hb, ?_⟩
  rw [hc k (by rw [ints_length]; omega)]
  simp [ints, List.getD, List.getElem?_eq_getElem (show k < l.length by omega)]

/-- A list of coefficients without zeros ahead. -/
def tidy : List Nat → List Nat
  | [] => [0]
  | [a] => [a]
  | 0 :: b :: l => tidy (b :: l)
  | l => l

/-- Block q is a polynomial over the field at F whose coefficients are l; it and its row lie from block B on. -/
def IsPoly (w : World) (B q : Nat) (F : Value) (l : List Nat) : Prop := B ≤ q ∧ ∃ A n c, (∀ a, A = some a → B ≤ a.block) ∧ n ≤ c ∧ Arr w q 80 [F, .slice A n c] ∧ Rd w A n (ints l)

section
variable {w w' : World} {B q : Nat} {F : Value} {l : List Nat}
theorem Rd.far {A : Option Addr} {n : Nat} {xs : List Value} (h : Rd w A n xs) {B : Nat} (hA : ∀ a, A = some a → B ≤ a.block) {p : Addr} (hp : p.block < B) (v : Value) : Rd (w.setCell p v) A n xs := by
  refine ⟨h.1, fun hn => ?_⟩
  obtain ⟨b, o, rfl, hb, hc⟩ := h.2 hn
  have := hA _ rfl
  refine ⟨b, o, rfl, by simpa using hb, fun k hk => ?_⟩
  rw [World.cell?_setCell_other w p _ v (fun e => by subst e; simp at this hp; omega)]
  exact hc k hk
theorem IsPoly.far (h : IsPoly w B q F l) {p : Addr} (hp : p.block < B) (v : Value) : IsPoly (w.setCell p v) B q F l := by
  obtain ⟨hq, A, n, c, hA, hnc, hr, hR⟩ := h
  exact ⟨hq, A, n, c, hA, hnc, hr.far (by omega) v, hR.far hA hp v⟩
theorem IsPoly.alloc (h : IsPoly w B q F l) (o : Obj) : IsPoly (w.alloc o) B q F l := by
  obtain ⟨hq, A, n, c, hA, hnc, hr, hR⟩ := h
  exact ⟨hq, A, n, c, hA, hnc, hr.alloc o, hR.alloc o⟩
theorem IsPoly.below (h : IsPoly w B q F l) (hb : Below w.heap.size w w') : IsPoly w' B q F l := by
  obtain ⟨hq, A, n, c, hA, hnc, hr, hR⟩ := h
  exact ⟨hq, A, n, c, hA, hnc, hr.below hb hr.lt, hR.below hb⟩
theorem IsPoly.mono (h : IsPoly w B q F l) {B' : Nat} (hB : B' ≤ B) : IsPoly w B' q F l := by
  obtain ⟨hq, A, n, c, hA, hnc, hr, hR⟩ := h
  exact ⟨by omega, A, n, c, fun a e => Nat.le_trans hB (hA a e), hnc, hr, hR⟩
theorem IsPoly.drewN (h : IsPoly w B q F l) (k : Nat) : IsPoly (w.drewN k) B q F l := h
theorem IsPoly.lt (h : IsPoly w B q F l) : q < w.heap.size := by
  obtain ⟨_, _, _, _, _, _, hr, _⟩ := h
  exact hr.lt
end

/-- A new polynomial is handed back, and no error. -/
def PolyOut (B : Nat) (F : Value) (l : List Nat) (w : World) (e : Ending) (w' : World) : Prop :=
  ∃ q, e = .returned (.tuple #[.pointer (some ⟨q, 0, none⟩), .nilIface]) ∧ w.heap.size ≤ q ∧ IsPoly w' B q F l ∧ Below w.heap.size w w'

theorem tidy_first {l : List Nat} (h : l.getD 0 0 ≠ 0 ∨ l.length = 1) (h1 : 1 ≤ l.length) : tidy l = l := by
  match l, h1 with
  | [a], _ => rfl
  | 0 :: b :: l, _ => simp at h
  | (a + 1) :: b :: l, _ => rfl
theorem tidy_drop (l : List Nat) : ∀ k, k < l.length → (∀ j, j < k → l.getD j 0 = 0) → tidy l = tidy (l.drop k) := by
  intro k
  induction k with
  | zero => intro _ _; simp
  | succ k ih =>
    intro hk hz
    rw [ih (by omega) (fun j hj => hz j (by omega))]
    have e1 : l.drop k = 0 :: l.drop (k + 1) := by
      rw [List.drop_eq_getElem_cons (by omega : k < l.length)]
      have := hz k (by omega)
      rw [List.getD, List.getElem?_eq_getElem (by omega)] at this
      simp at this
      rw [this]
    obtain ⟨b, r, e2⟩ : ∃ b r, l.drop (k + 1) = b :: r := ⟨_, _, List.drop_eq_getElem_cons hk⟩
    rw [e1, e2]
    rfl
theorem tidy_zeros (l : List Nat) (h1 : 1 ≤ l.length) (hz : ∀ j, j < l.length → l.getD j 0 = 0) : tidy l = [0] := by
  rw [tidy_drop l (l.length - 1) (by omega) (fun j hj => hz j (by omega))]
  have e : l.drop (l.length - 1) = [l.getD (l.length - 1) 0] := by
    rw [List.drop_eq_getElem_cons (by omega : l.length - 1 < l.length), List.drop_eq_nil_of_le (by omega)]
    simp [List.getD, List.getElem?_eq_getElem (show l.length - 1 < l.length by omega)]
  rw [e, hz _ (by omega)]
  rfl

theorem getD_drop0 (l : List Nat) (k : Nat) : (l.drop k).getD 0 0 = l.getD k 0 := by simp [List.getD]
theorem Rd.drop {w : World} {b o n : Nat} {l : List Value} (h : Rd w (some ⟨b, o, none⟩) n l) (k : Nat) (hk : k ≤ n) : Rd w (some ⟨b, o + k, none⟩) (n - k) (l.drop k) := by
  refine ⟨by rw [List.length_drop, h.1], fun hn => ?_⟩
  obtain ⟨b', o', he, hb, hc⟩ := h.2 (by omega)
  cases he
  refine ⟨b, o + k, rfl, hb, fun j hj => ?_⟩
  rw [List.length_drop] at hj
  rw [Nat.add_assoc, hc (k + j) (by omega), List.getElem_drop]

set_option maxHeartbeats 1000000 in
theorem newPoly (F : Option Addr) (A : Option Addr) (n c : Nat) (l : List Nat) (B : Nat) (w : World) (hR : Rd w A n (ints l)) (hn : 1 ≤ n) (hn2 : n ≤ 1000000) (hc : n ≤ c) (hAB : ∀ a, A = some a → B ≤ a.block) (hBw : B ≤ w.heap.size) :
    Calls Try.prog 48 #[.pointer F, .slice A n c] w (PolyOut B (.pointer F) (tidy l) w) := by
  have hl : l.length = n := by have := hR.1; simpa [ints] using this
  have hn0 : ((n : Int) == 0) = false := by simp; omega
  obtain ⟨b, o, rfl, hb, hc0⟩ := rd_int hR 0 (by omega)
  have HAB := hid (show B ≤ b from hAB _ rfl)
  clear hAB
  rw [Nat.add_zero] at hc0
  by_cases h1 : n = 1
  · subst h1
    have HT := hid (tidy_first (l := l) (.inr hl) (by omega))
    clear hl
    go_enter Try.func48, Try.ntmps48
    go_wp2
    go_ret2
    exact ⟨_, rfl, Nat.le_refl _, ⟨hBw, _, _, _, (fun a e => by cases e; exact HAB.out), hc, Arr.of_new w 80 _, by rw [HT.out]; exact hR.alloc _⟩, (Below.refl _ _).alloc (Nat.le_refl _) _⟩
  · have hn1 : (1 : Int) < n := by omega
    by_cases hz : l.getD 0 0 = 0
    · rw [hz] at hc0
      simp only [Int.natCast_zero] at hc0
      have HZ := hid hz
      have HL := hid hl
      clear hz hl
      go_enter Try.func48, Try.ntmps48
      go_wp2
      go_loop [8] (fun i => ∃ k : Nat, 1 ≤ k ∧ k ≤ n ∧ i = .int .i64 k ∧ Hid (∀ j, j < k → l.getD j 0 = 0)) (fun i => n - (intOf i).toNat)
      case atStart => exact ⟨1, by omega, by omega, rfl, hid (fun j hj => by rw [show j = 0 from by omega]; exact HZ.out)⟩
      case round =>
        obtain ⟨k, hk1, hk, rfl, hzs⟩ := hrel
        by_cases hlt : k < n
        · have hlt' : (k : Int) < (n : Int) := by omega
          obtain ⟨b', o', he, _, hck⟩ := rd_int hR k hlt
          cases he
          by_cases hz : l.getD k 0 = 0
          · rw [hz] at hck
            simp only [Int.natCast_zero] at hck
            have HZ' := hid hz
            clear hz
            go_wp2
            go_round
            case rel =>
              refine ⟨k + 1, by omega, by omega, by go_num, hid (fun j hj => ?_)⟩
              rcases Nat.lt_or_ge j k with h2 | h2
              · exact hzs.out j h2
              · rw [show j = k from by omega]; exact HZ'.out
            case measure => simp [intOf]; omega
          · have HT := hid (show tidy l = l.drop k by rw [tidy_drop l k (by rw [HL.out]; exact hlt) hzs.out, tidy_first (.inl (by rw [getD_drop0]; exact hz)) (by rw [List.length_drop, HL.out]; omega)])
            have hz' : (((l.getD k 0 : Nat) : Int) == 0) = false := by rw [beq_eq_false_iff_ne]; omega
            have hkn : ((k : Int) == (n : Int)) = false := by rw [beq_eq_false_iff_ne]; omega
            generalize l.getD k 0 = lk at *
            go_wp2
            go_ret2
            refine ⟨_, rfl, Nat.le_refl _, ⟨hBw, _, _, _, (fun a e => by cases e; exact HAB.out), by omega, Arr.of_new w 80 _, ?_⟩, (Below.refl _ _).alloc (Nat.le_refl _) _⟩
            rw [HT.out]
            have h := (Rd.drop hR k hk).alloc (.cells #[.pointer F, .slice (some ⟨b, o + k, none⟩) (n - k) (c - k)] 80)
            rw [ints, List.map_drop]
            exact h
        · obtain rfl : k = n := by omega
          have hlt' : ¬ (k : Int) < (k : Int) := by omega
          have HT := hid (tidy_zeros l (by rw [HL.out]; omega) (by rw [HL.out]; exact hzs.out))
          go_wp2
          go_ret2
          refine ⟨_, rfl, Nat.le_refl _, ⟨hBw, _, _, _, (fun a e => by cases e; show B ≤ w.heap.size + 1; omega), Nat.le_refl _, (Arr.of_new w 80 _).alloc _, ?_⟩, ((Below.refl _ _).alloc (Nat.le_refl _) _).alloc (by simp) _⟩
          rw [HT.out]
          have h := Rd.of_arr (Arr.of_new (w.alloc (.cells #[.pointer F, .slice (some ⟨w.heap.size + 1, 0, none⟩) 1 1] 80)) 3 #[.int .i64 0])
          simpa [ints] using h
    · have HT := hid (tidy_first (l := l) (.inl hz) (by omega))
      have hz' : (((l.getD 0 0 : Nat) : Int) == 0) = false := by rw [beq_eq_false_iff_ne]; omega
      generalize l.getD 0 0 = l0 at *
      clear hl
      go_enter Try.func48, Try.ntmps48
      go_wp2
      go_ret2
      exact ⟨_, rfl, Nat.le_refl _, ⟨hBw, _, _, _, (fun a e => by cases e; exact HAB.out), hc, Arr.of_new w 80 _, by rw [HT.out]; exact hR.alloc _⟩, (Below.refl _ _).alloc (Nat.le_refl _) _⟩
end Go.Proofs.Ytpkmknbmjlnkgaa
