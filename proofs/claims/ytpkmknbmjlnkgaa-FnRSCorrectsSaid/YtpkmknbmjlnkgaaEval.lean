/- The value of a polynomial: by Horner's rule, and as the sum of its terms. No program. -/
import Derived.Test.YtpkmknbmjlnkgaaGF
namespace Go.Proofs.Ytpkmknbmjlnkgaa
set_option linter.unusedSimpArgs false
set_option linter.unusedVariables false

/-- All are elements of the field. -/
def AllIn (m : Nat) (l : List Nat) : Prop := ∀ x ∈ l, x < 2 ^ m

/-- Horner's rule over the first k coefficients. -/
def hornTo (p m x : Nat) (l : List Nat) : Nat → Nat
  | 0 => 0
  | k + 1 => gm p m x (hornTo p m x l k) ^^^ l.getD k 0
def valAt (p m x : Nat) (l : List Nat) : Nat := hornTo p m x l l.length
/-- The powers of an element. -/
def powTo (p m x : Nat) : Nat → Nat
  | 0 => 1
  | k + 1 => gm p m (powTo p m x k) x
/-- The sum of the last t terms. -/
def sumTo (p m x : Nat) (l : List Nat) : Nat → Nat
  | 0 => 0
  | t + 1 => sumTo p m x l t ^^^ gm p m (l.getD (l.length - 1 - t) 0) (powTo p m x t)

section
variable {p m : Nat}
theorem getD_lt (h : IsGF p m) {l : List Nat} (hl : AllIn m l) (k : Nat) : l.getD k 0 < 2 ^ m := by
  rw [List.getD]
  cases hk : l[k]? with
  | none => simp; exact Nat.two_pow_pos m
  | some v => simp; exact hl v (List.mem_of_getElem? hk)
theorem hornTo_lt (h : IsGF p m) {l : List Nat} (hl : AllIn m l) {x : Nat} (hx : x < 2 ^ m) (k : Nat) : hornTo p m x l k < 2 ^ m := by
  cases k with
  | zero => exact Nat.two_pow_pos m
  | succ k => exact Nat.xor_lt_two_pow (gm_lt h hx _) (getD_lt h hl k)
theorem powTo_lt (h : IsGF p m) {x : Nat} (k : Nat) : powTo p m x k < 2 ^ m := by
  induction k with
  | zero => exact one_lt h
  | succ k ih => exact gm_lt h ih x
theorem sumTo_lt (h : IsGF p m) {l : List Nat} (hl : AllIn m l) {x : Nat} (t : Nat) : sumTo p m x l t < 2 ^ m := by
  induction t with
  | zero => exact Nat.two_pow_pos m
  | succ t ih => exact Nat.xor_lt_two_pow ih (gm_lt h (getD_lt h hl _) _)

/-- A prefix's value, and the terms that come ahead. -/
theorem horn_sum (h : IsGF p m) {l : List Nat} (hl : AllIn m l) {x : Nat} (hx : x < 2 ^ m) (t : Nat) (ht : t ≤ l.length) :
    valAt p m x l = gm p m (hornTo p m x l (l.length - t)) (powTo p m x t) ^^^ sumTo p m x l t := by
  induction t with
  | zero => simp [valAt, powTo, sumTo, gm_one h]
  | succ t ih =>
    rw [ih (by omega)]
    obtain ⟨k, hk⟩ : ∃ k, l.length - t = k + 1 := ⟨l.length - t - 1, by omega⟩
    rw [hk, show l.length - (t + 1) = k from by omega]
    simp only [hornTo, powTo, sumTo]
    rw [show l.length - 1 - t = k from by omega]
    have e1 : gm p m (gm p m x (hornTo p m x l k) ^^^ l.getD k 0) (powTo p m x t) = gm p m (gm p m x (hornTo p m x l k)) (powTo p m x t) ^^^ gm p m (l.getD k 0) (powTo p m x t) :=
      gm_left h (gm_lt h hx _) (getD_lt h hl k)
    have e2 : gm p m (gm p m x (hornTo p m x l k)) (powTo p m x t) = gm p m (hornTo p m x l k) (gm p m (powTo p m x t) x) := by
      rw [gm_comm h hx (hornTo_lt h hl hx k), gm_assoc h (hornTo_lt h hl hx k) hx (powTo_lt h t), gm_comm h hx (powTo_lt h t)]
    rw [e1, e2]
    simp only [Nat.xor_assoc, Nat.xor_comm, xor_lc]
theorem val_sum (h : IsGF p m) {l : List Nat} (hl : AllIn m l) {x : Nat} (hx : x < 2 ^ m) : sumTo p m x l l.length = valAt p m x l := by
  rw [horn_sum h hl hx l.length (Nat.le_refl _), Nat.sub_self]
  simp [hornTo, zero_gm]
/-- At 0: the last coefficient. -/
theorem val_zero (p m : Nat) (l : List Nat) (h1 : 1 ≤ l.length) : valAt p m 0 l = l.getD (l.length - 1) 0 := by
  unfold valAt
  obtain ⟨k, hk⟩ : ∃ k, l.length = k + 1 := ⟨l.length - 1, by omega⟩
  rw [hk, show k + 1 - 1 = k from rfl]
  simp [hornTo, zero_gm]
/-- At 1: the sum of the coefficients. -/
theorem horn_one (h : IsGF p m) {l : List Nat} (hl : AllIn m l) (k : Nat) : hornTo p m 1 l (k + 1) = hornTo p m 1 l k ^^^ l.getD k 0 := by
  simp only [hornTo]
  rw [one_gm h (hornTo_lt h hl (one_lt h) k)]
/-- The first coefficient. -/
theorem horn_first (p m x : Nat) (l : List Nat) : hornTo p m x l 1 = l.getD 0 0 := by simp [hornTo, gm_zero]
end
end Go.Proofs.Ytpkmknbmjlnkgaa
