/- The values of widths of elements (RSS): what the code and what the reference reckon, and that they are the same for the characters of RSS-14. Plain. -/
namespace Go.Proofs.Ytifegijnhlbedaa

set_option linter.unusedVariables false
def cb (n r : Nat) : Nat := if r = 0 then 1 else if r = 1 then n else n * (n - 1) / 2
def lsum (r : Nat) : Nat → Nat
  | 0 => 0
  | t + 1 => lsum r t + cb (r + t) r
def sub0 (bar n e most : Nat) (nn mz : Bool) : Int :=
  ((cb (n - e - 1) (2 - bar) : Nat) : Int) - (if nn && mz && decide (6 - 2 * bar ≤ n - e) then ((cb (n - e - (4 - bar)) (2 - bar) : Nat) : Int) else 0)
def subv (bar n e most : Nat) (nn mz : Bool) : Int :=
  sub0 bar n e most nn mz - (if bar < 2 then ((lsum (1 - bar) (n - e - (2 - bar) - most) : Nat) : Int) * ((3 - bar : Nat) : Int) else if most < n - e then 1 else 0)
/-- The sum for the widths 1 to k of an element. -/
def subs (bar n most : Nat) (nn pm : Bool) : Nat → Int
  | 0 => 0
  | k + 1 => subs bar n most nn pm k + subv bar n (k + 1) most nn (pm && decide (1 < k + 1))
def codeVal (a b c d most : Nat) (nn : Bool) : Int :=
  subs 0 (a + b + c + d) most nn true (a - 1) + subs 1 (b + c + d) most nn (decide (1 < a)) (b - 1) + subs 2 (c + d) most nn (decide (1 < a) && decide (1 < b)) (c - 1)

def tot (f : Nat → Nat) : Nat → Nat
  | 0 => 0
  | n + 1 => tot f n + f (n + 1)
def many (most : Nat) : Nat → Nat → Bool → Nat
  | 0, s, one => if s = 0 ∧ one = false then 1 else 0
  | k + 1, s, one => tot (fun w => many most k (s - w) (one && decide (1 < w))) (min most s)
def restVal (most : Nat) : List Nat → Nat → Bool → Nat
  | [], _, _ => 0
  | w :: r, left, one => tot (fun v => many most r.length (left - v) (one && decide (1 < v))) (w - 1) + restVal most r (left - w) (one && decide (1 < w))

theorem tot_le (f : Nat → Nat) (c : Nat) (h : ∀ w, f w ≤ c) : ∀ n, tot f n ≤ n * c
  | 0 => by simp [tot]
  | n + 1 => by
    have := tot_le f c h n
    have := h (n + 1)
    rw [tot, Nat.succ_mul]; omega
theorem many_le (most : Nat) (hm : most ≤ 8) : ∀ k s one, many most k s one ≤ 8 ^ k
  | 0, s, one => by unfold many; split <;> simp
  | k + 1, s, one => by
    unfold many
    have h := tot_le (fun w => many most k (s - w) (one && decide (1 < w))) (8 ^ k) (fun w => many_le most hm k _ _) (min most s)
    refine Nat.le_trans h ?_
    rw [Nat.pow_succ, Nat.mul_comm]
    exact Nat.mul_le_mul_left _ (by omega)
theorem cb_le (n r : Nat) (hn : n ≤ 20) : cb n r ≤ 400 := by
  unfold cb
  split
  · omega
  · split
    · omega
    · have : n * (n - 1) ≤ 20 * 20 := Nat.mul_le_mul hn (by omega)
      omega
theorem lsum_le (r : Nat) (hr : r ≤ 1) : ∀ t, t ≤ 19 → lsum r t ≤ 400 * t
  | 0, _ => Nat.le_refl _
  | t + 1, h => by
    have := lsum_le r hr t (by omega)
    have := cb_le (r + t) r (by omega)
    rw [lsum]; omega
theorem sub0_bd (bar n e most : Nat) (nn mz : Bool) (hn : n ≤ 20) : -400 ≤ sub0 bar n e most nn mz ∧ sub0 bar n e most nn mz ≤ 400 := by
  have h1 := cb_le (n - e - 1) (2 - bar) (by omega)
  have h2 := cb_le (n - e - (4 - bar)) (2 - bar) (by omega)
  unfold sub0
  constructor <;> split <;> omega
theorem subv_bd (bar n e most : Nat) (nn mz : Bool) (hn : n ≤ 20) : -30000 ≤ subv bar n e most nn mz ∧ subv bar n e most nn mz ≤ 400 := by
  have h1 := sub0_bd bar n e most nn mz hn
  unfold subv
  by_cases hb : bar < 2
  · by_cases ht : n - e - (2 - bar) - most ≤ 19
    · have h2 := lsum_le (1 - bar) (by omega) (n - e - (2 - bar) - most) ht
      have h3 : lsum (1 - bar) (n - e - (2 - bar) - most) * (3 - bar) ≤ 7600 * 3 := Nat.mul_le_mul (by omega) (by omega)
      rw [if_pos hb]
      have h4 : ((lsum (1 - bar) (n - e - (2 - bar) - most) : Nat) : Int) * ((3 - bar : Nat) : Int) = ((lsum (1 - bar) (n - e - (2 - bar) - most) * (3 - bar) : Nat) : Int) := by rw [Int.natCast_mul]
      rw [h4]
      omega
    · have : bar = 0 := by omega
      omega
  · rw [if_neg hb]
    constructor <;> split <;> omega
theorem subs_bd (bar n most : Nat) (nn pm : Bool) (hn : n ≤ 20) : ∀ k : Nat, -30000 * (k : Int) ≤ subs bar n most nn pm k ∧ subs bar n most nn pm k ≤ 400 * (k : Int)
  | 0 => by simp [subs]
  | k + 1 => by
    have h1 := subs_bd bar n most nn pm hn k
    have h2 := subv_bd bar n (k + 1) most nn (pm && decide (1 < k + 1)) hn
    rw [subs]
    omega

/-- The groups of characters: the sum, the widest one, and whether the first kind of count is asked. -/
def groups : List (Nat × Nat × Bool) :=
  [(12, 8, false), (10, 6, false), (8, 4, false), (6, 3, false), (4, 1, false), (5, 2, true), (7, 4, true), (9, 6, true), (11, 8, true),
   (4, 1, true), (6, 3, true), (8, 5, true), (10, 6, true), (12, 8, true), (10, 7, false), (8, 5, false), (6, 3, false), (4, 1, false)]
def agree (s most : Nat) (one : Bool) (a b c : Nat) : Bool :=
  let d := s - a - b - c
  if 1 ≤ d ∧ d ≤ most then codeVal a b c d most one == ((restVal most [a, b, c, d] (a + b + c + d) one : Nat) : Int) else true
def allAgree (s most : Nat) (one : Bool) : Bool :=
  (List.range most).all fun a => (List.range most).all fun b => (List.range most).all fun c => agree s most one (a + 1) (b + 1) (c + 1)
theorem all_agree : (groups.all fun g => allAgree g.1 g.2.1 g.2.2) = true := by decide +kernel
theorem agree_of (s most : Nat) (one : Bool) (hg : (s, most, one) ∈ groups) (a b c d : Nat) (ha : 1 ≤ a ∧ a ≤ most) (hb : 1 ≤ b ∧ b ≤ most) (hc : 1 ≤ c ∧ c ≤ most) (hd : 1 ≤ d ∧ d ≤ most) (hs : a + b + c + d = s) :
    codeVal a b c d most one = ((restVal most [a, b, c, d] (a + b + c + d) one : Nat) : Int) := by
  have h : allAgree s most one = true := List.all_eq_true.1 all_agree _ hg
  have h := List.all_eq_true.1 h (a - 1) (List.mem_range.2 (by omega))
  have h := List.all_eq_true.1 h (b - 1) (List.mem_range.2 (by omega))
  have h := List.all_eq_true.1 h (c - 1) (List.mem_range.2 (by omega))
  rw [show a - 1 + 1 = a by omega, show b - 1 + 1 = b by omega, show c - 1 + 1 = c by omega] at h
  have e : s - a - b - c = d := by omega
  simp only [agree, e, if_pos hd] at h
  exact of_decide_eq_true (by simpa using h)
end Go.Proofs.Ytifegijnhlbedaa
