/- Power series over a field of the symbols: their sums and products. Plain Lean. -/
import Derived.Test.YtpkmknbmjlnkgaaEval
namespace Go.Proofs.Ytpkmknbmjlnkgaa
set_option linter.unusedVariables false

/-- The elements of a field. -/
def KF {p m : Nat} (h : IsGF p m) : Type := { x : Nat // x < 2 ^ m }

section
variable {p m : Nat} {h : IsGF p m}
def mkK (h : IsGF p m) (x : Nat) : KF h := ⟨x % 2 ^ m, Nat.mod_lt _ (Nat.two_pow_pos m)⟩
instance addK : Add (KF h) := ⟨fun a b => ⟨a.1 ^^^ b.1, Nat.xor_lt_two_pow a.2 b.2⟩⟩
instance mulK : Mul (KF h) := ⟨fun a b => ⟨gm p m a.1 b.1, gm_lt h a.2 _⟩⟩
instance zeroK : Zero (KF h) := ⟨⟨0, Nat.two_pow_pos m⟩⟩
instance oneK : One (KF h) := ⟨⟨1, one_lt h⟩⟩
theorem kext {a b : KF h} (e : a.1 = b.1) : a = b := Subtype.ext e
theorem kadd_val (a b : KF h) : (a + b).1 = a.1 ^^^ b.1 := rfl
theorem kmul_val (a b : KF h) : (a * b).1 = gm p m a.1 b.1 := rfl
theorem kzero_val : (0 : KF h).1 = 0 := rfl
theorem kone_val : (1 : KF h).1 = 1 := rfl
theorem mk_val {x : Nat} (hx : x < 2 ^ m) : (mkK h x).1 = x := Nat.mod_eq_of_lt hx
theorem mk_xor (a b : Nat) : mkK h (a ^^^ b) = mkK h a + mkK h b := kext (Nat.xor_mod_two_pow)
theorem mk_gm {a b : Nat} (ha : a < 2 ^ m) (hb : b < 2 ^ m) : mkK h (gm p m a b) = mkK h a * mkK h b := kext (by rw [mk_val (gm_lt h ha b), kmul_val, mk_val ha, mk_val hb])
theorem mk_zero : mkK h 0 = 0 := kext (by rw [mk_val (Nat.two_pow_pos m), kzero_val])
theorem mk_one : mkK h 1 = 1 := kext (by rw [mk_val (one_lt h), kone_val])
theorem mk_of (a : KF h) : mkK h a.1 = a := kext (mk_val a.2)
theorem mk_inj {a b : Nat} (ha : a < 2 ^ m) (hb : b < 2 ^ m) (e : mkK h a = mkK h b) : a = b := by
  have := congrArg Subtype.val e
  rwa [mk_val ha, mk_val hb] at this
theorem kadd_comm (a b : KF h) : a + b = b + a := kext (Nat.xor_comm _ _)
theorem kadd_assoc (a b c : KF h) : a + b + c = a + (b + c) := kext (Nat.xor_assoc _ _ _)
theorem kadd_self (a : KF h) : a + a = 0 := kext (Nat.xor_self _)
theorem kadd_zero (a : KF h) : a + 0 = a := kext (Nat.xor_zero _)
theorem kzero_add (a : KF h) : 0 + a = a := kext (Nat.zero_xor _)
theorem kmul_comm (a b : KF h) : a * b = b * a := kext (gm_comm h a.2 b.2)
theorem kmul_assoc (a b c : KF h) : a * b * c = a * (b * c) := kext (gm_assoc h a.2 b.2 c.2)
theorem kmul_add (a b c : KF h) : a * (b + c) = a * b + a * c := kext (gm_right h a.2 _ _)
theorem kadd_mul (a b c : KF h) : (a + b) * c = a * c + b * c := kext (gm_left h a.2 b.2)
theorem kmul_zero (a : KF h) : a * 0 = 0 := kext (gm_zero _)
theorem kzero_mul (a : KF h) : 0 * a = 0 := kext (zero_gm _)
theorem kmul_one (a : KF h) : a * 1 = a := kext (gm_one h _)
theorem kone_mul (a : KF h) : 1 * a = a := kext (one_gm h a.2)
theorem kmul_eq_zero {a b : KF h} (e : a * b = 0) : a = 0 ∨ b = 0 := by
  rcases gm_eq_zero h a.2 b.2 (congrArg Subtype.val e) with h1 | h1
  · exact .inl (kext h1)
  · exact .inr (kext h1)
theorem keq_of_add {a b : KF h} (e : a + b = 0) : a = b := kext (xor_zero_iff (congrArg Subtype.val e))
theorem kone_ne : (1 : KF h) ≠ 0 := fun e => by have := congrArg Subtype.val e; rw [kone_val, kzero_val] at this; omega
instance acK : Std.Associative (α := KF h) (· + ·) := ⟨kadd_assoc⟩
instance cmK : Std.Commutative (α := KF h) (· + ·) := ⟨kadd_comm⟩
instance acKm : Std.Associative (α := KF h) (· * ·) := ⟨kmul_assoc⟩
instance cmKm : Std.Commutative (α := KF h) (· * ·) := ⟨kmul_comm⟩
end

/-- Power series. -/
def SF {p m : Nat} (h : IsGF p m) : Type := Nat → KF h

section
variable {p m : Nat} {h : IsGF p m}
def tlS (f : SF h) : SF h := fun n => f (n + 1)
def shS (f : SF h) : SF h
  | 0 => 0
  | n + 1 => f n
def cS (c : KF h) : SF h
  | 0 => c
  | _ + 1 => 0
def scS (c : KF h) (f : SF h) : SF h := fun n => c * f n
def convS : Nat → SF h → SF h → KF h
  | 0, f, g => f 0 * g 0
  | n + 1, f, g => f 0 * g (n + 1) + convS n (tlS f) g
instance addSr : Add (SF h) := ⟨fun f g n => f n + g n⟩
instance mulSr : Mul (SF h) := ⟨fun f g n => convS n f g⟩
instance zeroSr : Zero (SF h) := ⟨fun _ => 0⟩
instance oneSr : One (SF h) := ⟨cS 1⟩
theorem sext {f g : SF h} (e : ∀ n, f n = g n) : f = g := funext e
theorem sadd_at (f g : SF h) (n : Nat) : (f + g) n = f n + g n := rfl
theorem szero_at (n : Nat) : (0 : SF h) n = 0 := rfl
theorem tl_at (f : SF h) (n : Nat) : tlS f n = f (n + 1) := rfl
theorem sh_zero (f : SF h) : shS f 0 = 0 := rfl
theorem sh_succ (f : SF h) (n : Nat) : shS f (n + 1) = f n := rfl
theorem c_zero (c : KF h) : cS c 0 = c := rfl
theorem c_succ (c : KF h) (n : Nat) : cS c (n + 1) = 0 := rfl
theorem sc_at (c : KF h) (f : SF h) (n : Nat) : scS c f n = c * f n := rfl
theorem mul_at_zero (f g : SF h) : (f * g) 0 = f 0 * g 0 := rfl
theorem mul_at (f g : SF h) (n : Nat) : (f * g) (n + 1) = f 0 * g (n + 1) + (tlS f * g) n := rfl
theorem sadd_comm (a b : SF h) : a + b = b + a := sext fun n => kadd_comm _ _
theorem sadd_assoc (a b c : SF h) : a + b + c = a + (b + c) := sext fun n => kadd_assoc _ _ _
theorem sadd_self (a : SF h) : a + a = 0 := sext fun n => kadd_self _
theorem sadd_zero (a : SF h) : a + 0 = a := sext fun n => kadd_zero _
theorem szero_add (a : SF h) : 0 + a = a := sext fun n => kzero_add _
theorem seq_of_add {a b : SF h} (e : a + b = 0) : a = b := sext fun n => keq_of_add (congrFun e n)
instance acS : Std.Associative (α := SF h) (· + ·) := ⟨sadd_assoc⟩
instance cmS : Std.Commutative (α := SF h) (· + ·) := ⟨sadd_comm⟩
theorem mul_at' : ∀ (n : Nat) (f g : SF h), (f * g) (n + 1) = (f * tlS g) n + f (n + 1) * g 0
  | 0, f, g => rfl
  | n + 1, f, g => by
    rw [mul_at, mul_at' n (tlS f) g, mul_at, kadd_assoc]
    rfl
theorem smul_comm_at : ∀ (n : Nat) (f g : SF h), (f * g) n = (g * f) n
  | 0, f, g => kmul_comm _ _
  | n + 1, f, g => by rw [mul_at, mul_at', smul_comm_at n (tlS f) g, kadd_comm, kmul_comm]
theorem smul_comm (f g : SF h) : f * g = g * f := sext fun n => smul_comm_at n f g
theorem sadd_mul_at : ∀ (n : Nat) (f g k : SF h), ((f + g) * k) n = (f * k) n + (g * k) n
  | 0, f, g, k => kadd_mul _ _ _
  | n + 1, f, g, k => by
    rw [mul_at, mul_at, mul_at, show tlS (f + g) = tlS f + tlS g from rfl, sadd_mul_at n, sadd_at, kadd_mul]
    ac_rfl
theorem sadd_mul (f g k : SF h) : (f + g) * k = f * k + g * k := sext fun n => sadd_mul_at n f g k
theorem smul_add (f g k : SF h) : f * (g + k) = f * g + f * k := by rw [smul_comm, sadd_mul, smul_comm g, smul_comm k]
theorem sc_mul_at : ∀ (n : Nat) (c : KF h) (f g : SF h), (scS c f * g) n = c * (f * g) n
  | 0, c, f, g => kmul_assoc _ _ _
  | n + 1, c, f, g => by
    rw [mul_at, mul_at, show tlS (scS c f) = scS c (tlS f) from rfl, sc_mul_at n, kmul_add, sc_at, kmul_assoc]
theorem sc_mul (c : KF h) (f g : SF h) : scS c f * g = scS c (f * g) := sext fun n => sc_mul_at n c f g
theorem smul_assoc_at : ∀ (n : Nat) (f g k : SF h), ((f * g) * k) n = (f * (g * k)) n
  | 0, f, g, k => kmul_assoc _ _ _
  | n + 1, f, g, k => by
    have e : tlS (f * g) = scS (f 0) (tlS g) + tlS f * g := sext fun i => mul_at f g i
    rw [mul_at, mul_at, e, sadd_mul_at, sc_mul_at, smul_assoc_at n, mul_at g k, kmul_add, mul_at_zero, kmul_assoc, kadd_assoc]
theorem smul_assoc (f g k : SF h) : (f * g) * k = f * (g * k) := sext fun n => smul_assoc_at n f g k
instance acSm : Std.Associative (α := SF h) (· * ·) := ⟨smul_assoc⟩
instance cmSm : Std.Commutative (α := SF h) (· * ·) := ⟨smul_comm⟩
theorem szero_mul_at : ∀ (n : Nat) (f : SF h), ((0 : SF h) * f) n = 0
  | 0, f => kzero_mul _
  | n + 1, f => by rw [mul_at, show tlS (0 : SF h) = 0 from rfl, szero_mul_at n, szero_at, kzero_mul, kadd_zero]
theorem szero_mul (f : SF h) : (0 : SF h) * f = 0 := sext fun n => szero_mul_at n f
theorem smul_zero (f : SF h) : f * 0 = 0 := by rw [smul_comm, szero_mul]
theorem c_mul (c : KF h) (f : SF h) : cS c * f = scS c f := sext fun n => by
  cases n with
  | zero => rfl
  | succ n => rw [mul_at, show tlS (cS c) = (0 : SF h) from rfl, szero_mul, szero_at, kadd_zero]; rfl
theorem sone_mul (f : SF h) : 1 * f = f := by
  rw [show (1 : SF h) = cS 1 from rfl, c_mul]
  exact sext fun n => kone_mul _
theorem smul_one (f : SF h) : f * 1 = f := by rw [smul_comm, sone_mul]
theorem sh_mul (f g : SF h) : shS f * g = shS (f * g) := sext fun n => by
  cases n with
  | zero => exact kzero_mul _
  | succ n => rw [mul_at, sh_zero, kzero_mul, kzero_add]; rfl
theorem sh_add (f g : SF h) : shS (f + g) = shS f + shS g := sext fun n => by
  cases n with
  | zero => exact (kadd_zero _).symm
  | succ n => rfl
theorem sh_sc (c : KF h) (f : SF h) : shS (scS c f) = scS c (shS f) := sext fun n => by
  cases n with
  | zero => exact (kmul_zero _).symm
  | succ n => rfl
theorem sh_null : shS (0 : SF h) = 0 := sext fun n => by
  cases n with
  | zero => rfl
  | succ n => rfl
theorem sc_add (c : KF h) (f g : SF h) : scS c (f + g) = scS c f + scS c g := sext fun n => kmul_add _ _ _
theorem sc_sc (c d : KF h) (f : SF h) : scS c (scS d f) = scS (c * d) f := sext fun n => (kmul_assoc _ _ _).symm
theorem sc_one (f : SF h) : scS 1 f = f := sext fun n => kone_mul _
theorem sc_null (c : KF h) : scS c (0 : SF h) = 0 := sext fun n => kmul_zero _
theorem c_add (a b : KF h) : cS (a + b) = cS a + cS b := sext fun n => by
  cases n with
  | zero => rfl
  | succ n => exact (kadd_zero _).symm
theorem c_null : cS (0 : KF h) = 0 := sext fun n => by
  cases n with
  | zero => rfl
  | succ n => rfl
theorem sc_c (a b : KF h) : scS a (cS b) = cS (a * b) := sext fun n => by
  cases n with
  | zero => rfl
  | succ n => exact kmul_zero _

/-- Shifted so often. -/
def shn : Nat → SF h → SF h
  | 0, f => f
  | k + 1, f => shS (shn k f)
theorem shn_mul : ∀ (k : Nat) (f g : SF h), shn k f * g = shn k (f * g)
  | 0, f, g => rfl
  | k + 1, f, g => by rw [shn, sh_mul, shn_mul k, shn]
theorem mul_shn (k : Nat) (f g : SF h) : f * shn k g = shn k (f * g) := by rw [smul_comm, shn_mul, smul_comm]
theorem shn_add : ∀ (k : Nat) (f g : SF h), shn k (f + g) = shn k f + shn k g
  | 0, f, g => rfl
  | k + 1, f, g => by rw [shn, shn_add k, sh_add, shn, shn]
theorem shn_sc : ∀ (k : Nat) (c : KF h) (f : SF h), shn k (scS c f) = scS c (shn k f)
  | 0, c, f => rfl
  | k + 1, c, f => by rw [shn, shn_sc k, sh_sc, shn]
theorem shn_null : ∀ (k : Nat), shn k (0 : SF h) = 0
  | 0 => rfl
  | k + 1 => by rw [shn, shn_null k, sh_null]
theorem shn_shn : ∀ (k j : Nat) (f : SF h), shn k (shn j f) = shn (k + j) f
  | 0, j, f => by rw [Nat.zero_add]; rfl
  | k + 1, j, f => by rw [shn, shn_shn k, show k + 1 + j = (k + j) + 1 from by omega, shn]
theorem shn_low : ∀ (k : Nat) (f : SF h) (i : Nat), i < k → shn k f i = 0
  | 0, f, i, hi => by omega
  | k + 1, f, 0, hi => rfl
  | k + 1, f, i + 1, hi => shn_low k f i (by omega)
theorem shn_at : ∀ (k : Nat) (f : SF h) (i : Nat), shn k f (k + i) = f i
  | 0, f, i => by rw [Nat.zero_add]; rfl
  | k + 1, f, i => by rw [show k + 1 + i = (k + i) + 1 from by omega]; exact shn_at k f i
theorem shn_inj {k : Nat} {f g : SF h} (e : shn k f = shn k g) : f = g := sext fun n => by rw [← shn_at k f, ← shn_at k g, e]
theorem shn_of_low : ∀ (k : Nat) (f : SF h), (∀ i, i < k → f i = 0) → ∃ g, f = shn k g
  | 0, f, _ => ⟨f, rfl⟩
  | k + 1, f, hl => by
    obtain ⟨g, hg⟩ := shn_of_low k (tlS f) (fun i hi => hl (i + 1) (by omega))
    exact ⟨g, sext fun n => by
      cases n with
      | zero => exact hl 0 (by omega)
      | succ n => exact congrFun hg n⟩
theorem low_of : ∀ (i : Nat) (f : SF h), f i ≠ 0 → ∃ a g, f = shn a g ∧ g 0 ≠ 0
  | 0, f, hf => ⟨0, f, rfl, hf⟩
  | i + 1, f, hf => by
    by_cases h0 : f 0 = 0
    · obtain ⟨a, g, e, hg⟩ := low_of i (tlS f) hf
      exact ⟨a + 1, g, sext fun n => by
        cases n with
        | zero => exact h0
        | succ n => exact congrFun e n, hg⟩
    · exact ⟨0, f, rfl, h0⟩
theorem ne_at {f : SF h} (hf : f ≠ 0) : ∃ i, f i ≠ 0 := Classical.byContradiction fun hn => hf (sext fun n => Classical.byContradiction fun h1 => hn ⟨n, h1⟩)
theorem smul_ne {f g : SF h} (hf : f ≠ 0) (hg : g ≠ 0) : f * g ≠ 0 := fun e => by
  obtain ⟨i, hi⟩ := ne_at hf
  obtain ⟨j, hj⟩ := ne_at hg
  obtain ⟨a, f1, rfl, h1⟩ := low_of i f hi
  obtain ⟨b, g1, rfl, h2⟩ := low_of j g hj
  rw [shn_mul, mul_shn, shn_shn] at e
  have e2 := congrFun e (a + b + 0)
  rw [shn_at, szero_at, mul_at_zero] at e2
  rcases kmul_eq_zero e2 with h3 | h3
  · exact h1 h3
  · exact h2 h3
theorem scancel {f a b : SF h} (hf : f ≠ 0) (e : f * a = f * b) : a = b := by
  refine seq_of_add (Classical.byContradiction fun hn => smul_ne hf hn ?_)
  rw [smul_add, e, sadd_self]

/-- Nothing stands at d or behind. -/
def DegS (f : SF h) (d : Nat) : Prop := ∀ i, d ≤ i → f i = 0
theorem deg_mono {f : SF h} {d e : Nat} (hf : DegS f d) (hde : d ≤ e) : DegS f e := fun i hi => hf i (by omega)
theorem deg_add {f g : SF h} {d : Nat} (hf : DegS f d) (hg : DegS g d) : DegS (f + g) d := fun i hi => by rw [sadd_at, hf i hi, hg i hi, kadd_zero]
theorem deg_null (d : Nat) : DegS (0 : SF h) d := fun i _ => rfl
theorem deg_sh {f : SF h} {d : Nat} (hf : DegS f d) : DegS (shS f) (d + 1) := fun i hi => by
  cases i with
  | zero => rfl
  | succ i => exact hf i (by omega)
theorem split_at (f : SF h) : f = cS (f 0) + shS (tlS f) := sext fun n => by
  cases n with
  | zero => exact (kadd_zero _).symm
  | succ n => exact (kzero_add _).symm
theorem deg_mul : ∀ (a b : Nat) (f g : SF h), DegS f (a + 1) → DegS g (b + 1) → DegS (f * g) (a + b + 1) ∧ (f * g) (a + b) = f a * g b
  | 0, b, f, g, hf, hg => by
    have e : f * g = scS (f 0) g := by
      rw [split_at f, show tlS f = 0 from sext fun n => hf (n + 1) (by omega), sh_null, sadd_zero, c_mul]
      rfl
    rw [e, Nat.zero_add]
    exact ⟨fun i hi => by rw [sc_at, hg i hi, kmul_zero], rfl⟩
  | a + 1, b, f, g, hf, hg => by
    obtain ⟨h1, h2⟩ := deg_mul a b (tlS f) g (fun i hi => hf (i + 1) (by omega)) hg
    constructor
    · intro i hi
      cases i with
      | zero => omega
      | succ i => rw [mul_at, hg (i + 1) (by omega), kmul_zero, kzero_add]; exact h1 i (by omega)
    · rw [show a + 1 + b = (a + b) + 1 from by omega, mul_at, h2, hg (a + b + 1) (by omega), kmul_zero, kzero_add]
      rfl
theorem top_of : ∀ (d : Nat) (f : SF h), DegS f d → f ≠ 0 → ∃ e, DegS f (e + 1) ∧ f e ≠ 0 ∧ e < d
  | 0, f, hf, hn => absurd (sext fun n => hf n (by omega)) hn
  | d + 1, f, hf, hn => by
    by_cases h0 : f d = 0
    · obtain ⟨e, h1, h2, h3⟩ := top_of d f (fun i hi => by
        rcases Nat.lt_or_ge i (d + 1) with h4 | h4
        · rw [show i = d from by omega]; exact h0
        · exact hf i h4) hn
      exact ⟨e, h1, h2, by omega⟩
    · exact ⟨d, hf, h0, by omega⟩
/-- Alike below R. -/
def EqB (R : Nat) (f g : SF h) : Prop := ∀ i, i < R → f i = g i
theorem mul_cong : ∀ (n : Nat) (f f' g g' : SF h), (∀ i, i ≤ n → f i = f' i) → (∀ i, i ≤ n → g i = g' i) → (f * g) n = (f' * g') n
  | 0, f, f', g, g', hf, hg => by rw [mul_at_zero, mul_at_zero, hf 0 (by omega), hg 0 (by omega)]
  | n + 1, f, f', g, g', hf, hg => by
    rw [mul_at, mul_at, hf 0 (by omega), hg (n + 1) (by omega), mul_cong n (tlS f) (tlS f') g g' (fun i hi => hf (i + 1) (by omega)) (fun i hi => hg i (by omega))]
theorem eqb_mul {R : Nat} {f f' g g' : SF h} (hf : EqB R f f') (hg : EqB R g g') : EqB R (f * g) (f' * g') := fun n hn => mul_cong n _ _ _ _ (fun i hi => hf i (by omega)) (fun i hi => hg i (by omega))
theorem eqb_add {R : Nat} {f f' g g' : SF h} (hf : EqB R f f') (hg : EqB R g g') : EqB R (f + g) (f' + g') := fun n hn => by rw [sadd_at, sadd_at, hf n hn, hg n hn]
theorem eqb_refl (R : Nat) (f : SF h) : EqB R f f := fun _ _ => rfl
theorem EqB.symm {R : Nat} {f g : SF h} (e : EqB R f g) : EqB R g f := fun i hi => (e i hi).symm
theorem EqB.trans {R : Nat} {f g k : SF h} (e : EqB R f g) (e2 : EqB R g k) : EqB R f k := fun i hi => (e i hi).trans (e2 i hi)
end
end Go.Proofs.Ytpkmknbmjlnkgaa
