/- The walks of FnAZTurn: what each function that it reaches computes. -/
import Derived.Test.YtifegijnhlbedaaProg
import Derived.Test.YtifegijnhlbedaaMem
import Derived.Test.YtifegijnhlbedaaBits
import Derived.BigQuiet
import Derived.Deep.QuietTactic
import Derived.KernelRfl
import Derived.Lib.BitFns
namespace Go.Proofs.Ytifegijnhlbedaa
open Go.RowKit
set_option linter.unusedVariables false

theorem info3t : (Try.prog.info? 3).map (fun i => (i.zero, i.size, i.bytes)) = some (some (.int .i64 0), 1, 8) := by kernel_rfl

def pop16 (v : Nat) : Nat := Lib.onesCount (v / 256) + Lib.onesCount (v % 256)

theorem pop8_nat (n : Nat) (h : n < 256) : Lib.pop8 (n : Int) = (Lib.onesCount n : Int) := Lib.pop8_eq ⟨n, h⟩
theorem tab_size : Lib.pop8tab.size = 256 := by decide +kernel
theorem tab_eq : ∀ n : Fin 256, (Lib.pop8tab[n.val]'(by rw [tab_size]; exact n.isLt)).toNat = Lib.onesCount n.val := by decide +kernel
theorem ones_le : ∀ n : Fin 256, Lib.onesCount n.val ≤ 8 := by decide +kernel

set_option maxHeartbeats 400000 in
theorem onesCount16 (v : Nat) (hv : v < 65536) (w : World) :
    Calls Try.prog 42 #[.int .u16 v] w fun e w' => e = .returned (.int .i64 (pop16 v : Nat)) ∧ ∃ n, w' = w.drewN n := by
  have h1 : (v : Int) / 256 < (Lib.pop8tab.size : Int) := by rw [show Lib.pop8tab.size = 256 from by decide +kernel]; omega
  have h2 : (v : Int) % 256 < (Lib.pop8tab.size : Int) := by rw [show Lib.pop8tab.size = 256 from by decide +kernel]; omega
  have h3 : 0 ≤ (v : Int) / 256 := by omega
  have h4 : 0 ≤ (v : Int) % 256 := by omega
  have h5 : bits .and .u16 (v : Int) 255 = (v : Int) % 256 := by
    have := u16_and_nat v 255 (by omega) (by omega)
    rw [show v &&& 255 = v % 256 from Nat.and_two_pow_sub_one_eq_mod v 8] at this
    simpa using this
  have e2 : Lib.pop8 ((v : Int) % 256) = ((Lib.onesCount (v % 256) : Nat) : Int) := pop8_nat (v % 256) (by omega)
  have e1 : ∀ h, (Lib.pop8tab[v / 256]'h).toNat = Lib.onesCount (v / 256) := fun h => tab_eq ⟨v / 256, by omega⟩
  have l1 : Lib.onesCount (v / 256) ≤ 8 := ones_le ⟨v / 256, by omega⟩
  have l2 : Lib.onesCount (v % 256) ≤ 8 := ones_le ⟨v % 256, by omega⟩
  have hpop := hid (show pop16 v = Lib.onesCount (v / 256) + Lib.onesCount (v % 256) from rfl)
  have hm : ((Lib.onesCount (v / 256) : Int) + (Lib.onesCount (v % 256) : Int)) % 256 = (Lib.onesCount (v / 256) : Int) + (Lib.onesCount (v % 256) : Int) := by omega
  generalize hA : Lib.onesCount (v / 256) = a at *
  generalize hB : Lib.onesCount (v % 256) = b at *
  clear hA hB
  go_enter Try.func42, Try.ntmps42
  go_wp2
  go_quiet (fail)
  go_wp2
  go_ret
  exact ⟨by rw [hpop.out]; rfl, _, rfl⟩

/-! ### The four corners' bits -/
def expBits (k : Nat) : Nat := [3808, 476, 2107, 1799].getD k 0
theorem expBits_lt (k : Nat) : expBits k < 4096 := by
  unfold expBits
  rcases k with _ | _ | _ | _ | k <;> simp [List.getD]

def sideVal (s : Nat) : Value := .int .i64 s
def sideT (L s : Nat) : Nat := s / 2 ^ (L - 2) * 2 + s % 2
def cornerTo (L : Nat) (S : List Nat) : Nat → Nat
  | 0 => 0
  | k + 1 => cornerTo L S k * 8 + sideT L (S.getD k 0)
def cornerBits (L : Nat) (S : List Nat) : Nat := cornerTo L S 4 % 2 * 2048 + cornerTo L S 4 / 2

def Sides (L : Nat) (S : List Nat) : Prop := S.length = 4 ∧ ∀ k, k < 4 → S.getD k 0 < 2 ^ L

theorem sideT_lt {L : Nat} {S : List Nat} (h : Sides L S) (hL : 2 ≤ L) (k : Nat) (hk : k < 4) : sideT L (S.getD k 0) < 8 := by
  have := h.2 k hk
  have e : 2 ^ L = 2 ^ (L - 2) * 4 := by rw [show L = L - 2 + 2 from by omega, Nat.pow_add]; simp
  have : S.getD k 0 / 2 ^ (L - 2) < 4 := Nat.div_lt_of_lt_mul (by rw [← e]; exact this)
  unfold sideT
  omega
theorem cornerTo_lt {L : Nat} {S : List Nat} (h : Sides L S) (hL : 2 ≤ L) (k : Nat) (hk : k ≤ 4) : cornerTo L S k < 8 ^ k := by
  induction k with
  | zero => simp [cornerTo]
  | succ k ih => have := ih (by omega); have := sideT_lt h hL k (by omega); simp only [cornerTo, Nat.pow_succ]; omega
theorem cornerTo_le {L : Nat} {S : List Nat} (h : Sides L S) (hL : 2 ≤ L) (k : Nat) (hk : k ≤ 4) : cornerTo L S k < 4096 :=
  Nat.lt_of_lt_of_le (cornerTo_lt h hL k hk) (by have : 8 ^ k ≤ 8 ^ 4 := Nat.pow_le_pow_right (by omega) hk; omega)

theorem rd_side {w : World} {A : Option Addr} {S : List Nat} (h : Rd w A 4 (S.map sideVal)) (k : Nat) (hk : k < 4) :
    ∃ b o, A = some ⟨b, o, none⟩ ∧ w.cell? ⟨b, o + k, none⟩ = some (.int .i64 (S.getD k 0 : Nat)) := by
  obtain ⟨b, o, hA, hc⟩ := h.at_ k hk
  have hl : S.length = 4 := by simpa using h.1
  exact ⟨b, o, hA, by rw [hc]; simp [sideVal, List.getD, List.getElem?_eq_getElem (show k < S.length by omega)]⟩

/-- A new slice of four numbers. -/
def ExpOut (w : World) (e : Ending) (w' : World) : Prop :=
  e = .returned (.slice (some ⟨w.heap.size, 0, none⟩) 4 4) ∧ Arr w' w.heap.size 3 [.int .i64 3808, .int .i64 476, .int .i64 2107, .int .i64 1799] ∧ Below w.heap.size w w'

theorem expected (w : World) : Calls Try.prog 43 #[] w (ExpOut w) := by
  go_enter Try.func43, Try.ntmps43
  go_wp2
  go_ret
  exact ⟨rfl, Arr.of_new w 3 _, (Below.refl _ _).alloc (Nat.le_refl _) _⟩

/-- The first turn whose bits differ in at most two places. -/
def rotFrom (cb : Nat) : Nat → Nat → Option Nat
  | 0, _ => none
  | f + 1, k => if pop16 (cb ^^^ expBits k) ≤ 2 then some k else rotFrom cb f (k + 1)

def RotOut (cb : Nat) (w : World) (e : Ending) (w' : World) : Prop :=
  Below w.heap.size w w' ∧ ((∃ k, rotFrom cb 4 0 = some k ∧ e = .returned (.tuple #[.int .i64 (k : Nat), .nilIface])) ∨ (rotFrom cb 4 0 = none ∧ ∃ t v, e = .returned (.tuple #[.int .i64 0, .iface t v])))

theorem pop16_le (v : Nat) (h : v < 65536) : pop16 v ≤ 16 := by
  have l1 : Lib.onesCount (v / 256) ≤ 8 := ones_le ⟨v / 256, by omega⟩
  have l2 : Lib.onesCount (v % 256) ≤ 8 := ones_le ⟨v % 256, by omega⟩
  unfold pop16; omega

/-- An error that is not nil is handed back; nothing that was there has turned. -/
def ErrOut (w : World) (e : Ending) (w' : World) : Prop := ∃ t v, e = .returned (.iface t v) ∧ Below w.heap.size w w'

theorem newException (s : ByteArray) (a : Option Addr) (l c : Nat) (w : World) :
    Calls Try.prog 46 #[.string s, .slice a l c] w fun e w' => e = .returned (.agg #[.string s, .nilIface]) ∧ Below w.heap.size w w' := by
  go_enter Try.func46, Try.ntmps46
  go_wp2
  refine bodyPost_ret (v := .agg #[.string s, .nilIface]) (by simp [results, Try.results46, go_sem]) rfl ⟨rfl, (Below.refl _ _).alloc (Nat.le_refl _) _⟩

theorem newNotFound (a : Option Addr) (l c : Nat) (w : World) : Calls Try.prog 44 #[.slice a l c] w (ErrOut w) := by
  go_enter Try.func44, Try.ntmps44
  go_wp2_with fail
  refine (newException _ _ _ _ _).mono ?_
  rintro e w1 ⟨rfl, hB⟩
  go_wp2_with fail
  go_ret
  exact ⟨_, _, rfl, hB⟩

set_option maxHeartbeats 1000000 in
theorem getRotation (A : Option Addr) (c L : Nat) (S : List Nat) (w : World) (hL : L = 10 ∨ L = 14) (hS : Sides L S) (hR : Rd w A 4 (S.map sideVal)) :
    Calls Try.prog 38 #[.slice A 4 c, .int .i64 L] w (RotOut (cornerBits L S) w) := by
  go_enter Try.func38, Try.ntmps38
  go_wp2
  go_loopw [6, 8, 9, 13] (fun cb _ _ i wr => ∃ k : Nat, k ≤ 4 ∧ i = .int .i64 k ∧ cb = .int .i64 (cornerTo L S k : Nat) ∧ wr = w) (fun _ _ _ i _ => 4 - (intOf i).toNat)
  case atStart => exact ⟨0, by omega, rfl, rfl, rfl⟩
  case round =>
    obtain ⟨k, hk, rfl, rfl, rfl⟩ := hrel
    by_cases hlt : k < 4
    · obtain ⟨b, o, rfl, hc⟩ := rd_side hR k hlt
      have hs := hS.2 k hlt
      obtain ⟨q, hq, hq4, HQ⟩ : ∃ q : Nat, ((S.getD k 0 : Nat) : Int) / 2 ^ (L - 2) = (q : Int) ∧ q < 4 ∧ Hid (sideT L (S.getD k 0) = q * 2 + S.getD k 0 % 2) := by
        refine ⟨S.getD k 0 / 2 ^ (L - 2), by simp, ?_, hid rfl⟩
        rcases hL with rfl | rfl <;> simp at hs ⊢ <;> omega
      have hcb := cornerTo_le hS (by omega) k hk
      have HS := hid (show cornerTo L S (k + 1) = cornerTo L S k * 8 + sideT L (S.getD k 0) from rfl)
      have hand : bits .and .i64 ((S.getD k 0 : Nat) : Int) 1 = ((S.getD k 0 % 2 : Nat) : Int) := by
        have := i64_and (S.getD k 0) 1 (by rcases hL with rfl | rfl <;> simp at hs ⊢ <;> omega) (by omega)
        rw [nat_mask1] at this
        exact this
      generalize S.getD k 0 = s at *
      have hs' : s < 16384 := by rcases hL with rfl | rfl <;> simp at hs <;> omega
      clear hs
      go_wp2
      go_roundw
      case rel =>
        refine ⟨k + 1, by omega, by go_num, ?_, trivial⟩
        have e := HS.out
        rw [HQ.out] at e
        rw [e]; go_num
      case measure => simp [intOf]; omega
    · obtain rfl : k = 4 := by omega
      have hcb := cornerTo_le hS (by omega) 4 (by omega)
      have hand : bits .and .i64 ((cornerTo L S 4 : Nat) : Int) 1 = ((cornerTo L S 4 % 2 : Nat) : Int) := by
        have := i64_and (cornerTo L S 4) 1 (by omega) (by omega)
        rw [nat_mask1] at this
        exact this
      have HC := hid (show cornerBits L S = cornerTo L S 4 % 2 * 2048 + cornerTo L S 4 / 2 from rfl)
      generalize cornerTo L S 4 = c4 at *
      obtain ⟨cb, hcbe, hcbl, HC2⟩ : ∃ cb : Nat, ((c4 % 2 : Nat) : Int) * 2048 + (c4 : Int) / 2 = (cb : Int) ∧ cb < 4096 ∧ Hid (cornerBits L S = cb) :=
        ⟨c4 % 2 * 2048 + c4 / 2, by omega, by omega, HC.out⟩
      have hcbe' : (c4 : Int) % 2 * 2048 + (c4 : Int) / 2 = (cb : Int) := by omega
      go_wp2
      rw [HC2.out]
      clear hand hcbe hcbe' HC hcb
      obtain ⟨w0, rfl⟩ : ∃ w0 : World, w0 = wr := ⟨_, rfl⟩
      go_loopw [10] (fun i wr => ∃ k : Nat, k ≤ 4 ∧ i = .int .i64 k ∧ rotFrom cb (4 - k) k = rotFrom cb 4 0 ∧ Below w0.heap.size w0 wr) (fun i _ => 4 - (intOf i).toNat)
      case atStart => exact ⟨0, by omega, rfl, rfl, Below.refl _ _⟩
      case round =>
        obtain ⟨k, hk, rfl, hrot, hB⟩ := hrel
        have HR := hid hrot
        clear hrot
        by_cases hlt : k < 4
        · have hlt' : (k : Int) < 4 := by omega
          have he := expBits_lt k
          have hx : cb ^^^ expBits k < 2 ^ 12 := Nat.xor_lt_two_pow (by omega) (by omega)
          have hx' : bits .xor .i64 (cb : Int) (expBits k : Nat) = ((cb ^^^ expBits k : Nat) : Int) := i64_xor _ _ (by omega) (by omega)
          have hx2 : ((cb ^^^ expBits k : Nat) : Int) % 65536 = ((cb ^^^ expBits k : Nat) : Int) := by omega
          have hx3 : cb ^^^ expBits k < 65536 := by omega
          have HE := hid (show rotFrom cb (4 - k) k = if pop16 (cb ^^^ expBits k) ≤ 2 then some k else rotFrom cb (4 - (k + 1)) (k + 1) by
            rw [show 4 - k = (4 - (k + 1)) + 1 from by omega]; rfl)
          have hp := pop16_le (cb ^^^ expBits k) hx3
          clear hx
          go_wp2_with fail
          refine (expected _).mono ?_
          rintro e w1 ⟨rfl, hA, hB1⟩
          have hc : w1.cell? ⟨wr.heap.size, k, none⟩ = some (.int .i64 (expBits k : Nat)) := by
            rw [hA.cell? k]
            rcases (by omega : k = 0 ∨ k = 1 ∨ k = 2 ∨ k = 3) with rfl | rfl | rfl | rfl <;> rfl
          clear hA
          have hB' := hB.trans (hB1.mono hB.size)
          go_wp2_with fail
          refine (onesCount16 _ hx3 _).mono ?_
          rintro e w2 ⟨rfl, nq, rfl⟩
          generalize pop16 (cb ^^^ expBits k) = p at *
          generalize expBits k = ek at *
          by_cases h2 : p ≤ 2
          · have h2' : (p : Int) ≤ 2 := by omega
            have HF := hid (show rotFrom cb 4 0 = some k by rw [← HR.out, HE.out, if_pos h2])
            go_wp2_with fail
            go_ret2
            exact ⟨below_drewN hB' _, .inl ⟨k, HF.out, rfl⟩⟩
          · have h2' : ¬ (p : Int) ≤ 2 := by omega
            have HF := hid (show rotFrom cb (4 - (k + 1)) (k + 1) = rotFrom cb 4 0 by rw [← HR.out, HE.out, if_neg h2])
            go_wp2_with fail
            go_roundw
            case rel =>
              (repeat apply Exists.intro)
              exact ⟨⟨k + 1, by omega, by go_num, HF.out, below_drewN hB' _⟩, rfl⟩
            case measure => simp [intOf]; omega
        · obtain rfl : k = 4 := by omega
          have HN := hid (show rotFrom cb 4 0 = none by rw [← HR.out]; rfl)
          go_wp2_with fail
          refine (newNotFound _ _ _ _).mono ?_
          rintro e w1 ⟨t, v, rfl, hB1⟩
          go_wp2_with fail
          go_ret2
          have e0 : wr.heap.size ≤ ((wr.alloc (.cells #[.iface 9 (.string ⟨#[114, 111, 116, 97, 116, 105, 111, 110, 32, 110, 111, 116, 32, 102, 111, 117, 110, 100]⟩)] 20))).heap.size := by simp
          refine ⟨(hB.alloc hB.size _).trans (hB1.mono (Nat.le_trans hB.size e0)), ?_⟩
          refine Or.inr ⟨?_, t, v, rfl⟩
          rw [HC2.out]
          exact HN.out

/-- What impl.AZTurn and spec.AZUpper hand back. -/
def TurnOut (r : Option Nat) (w : World) (e : Ending) (w' : World) : Prop :=
  e = .returned (.tuple #[.int .i64 (r.getD 0 : Nat), .bool r.isSome]) ∧ Below w.heap.size w w'

theorem rotation (A : Option Addr) (c L : Nat) (S : List Nat) (w : World) (hL : L = 10 ∨ L = 14) (hS : Sides L S) (hR : Rd w A 4 (S.map sideVal)) :
    Calls Try.prog 30 #[.slice A 4 c, .int .i64 L] w (RotOut (cornerBits L S) w) := by
  go_enter Try.func30, Try.ntmps30
  go_wp2_with fail
  refine (getRotation A c L S w hL hS hR).mono ?_
  rintro e w1 ⟨hB, ⟨k, hk, rfl⟩ | ⟨hk, t, v, rfl⟩⟩
  · have HK := hid hk
    clear hk
    go_wp2_with fail
    go_ret2
    exact ⟨hB, .inl ⟨k, HK.out, rfl⟩⟩
  · have HK := hid hk
    clear hk
    go_wp2_with fail
    go_ret2
    exact ⟨hB, .inr ⟨HK.out, t, v, rfl⟩⟩

theorem side_one (S : List Nat) : ∀ u ∈ S.map sideVal, u.oneCell' = true := by
  intro u hu
  obtain ⟨b, _, rfl⟩ := List.mem_map.1 hu
  rfl

set_option maxHeartbeats 400000 in
theorem implAZTurn (A : Option Addr) (c L : Nat) (S : List Nat) (w : World) (hL : L = 10 ∨ L = 14) (hS : Sides L S) (hR : Rd w A 4 (S.map sideVal)) :
    Calls Try.prog 17 #[.slice A 4 c, .int .i64 L] w (TurnOut (rotFrom (cornerBits L S) 4 0) w) := by
  obtain ⟨i0, hi, hz0, hz1, hz2⟩ := info_parts info3t
  have hL2 : ¬ (L : Int) < 2 := by omega
  go_enter Try.func17, Try.ntmps17
  go_wp2_with (at_builtin; refine wpList_app _ rfl _ _ 23 rfl w.heap.size 3 i0 _ 8 Try.underlying23 hi hz0 hz1 hz2 rfl _ [] rfl (Own.nil _ _ _) A 4 c (S.map sideVal) rfl hR (side_one S) (by simp [maxLen]) (by simp) (Nat.le_refl _) ?_)
  intro v w1 hO hg _
  obtain ⟨A', c', hv, hR', hc'⟩ := hO.form
  have hl4 : (S.map sideVal).length = 4 := by simpa using hS.1
  rw [hl4] at hv hR'
  clear hl4
  subst hv
  have hB : Below w.heap.size w w1 := (Below.refl _ _).grown hg (Nat.le_refl _) (by simp [Value.ownBlock])
  clear hO hg hc'
  go_wp2_with fail
  refine (rotation A' c' L S w1 hL hS hR').mono ?_
  rintro e w2 ⟨hB2, ⟨k, hk, rfl⟩ | ⟨hk, t, v, rfl⟩⟩
  · have HK := hid hk
    clear hk
    go_wp2_with fail
    go_quiet (fail)
    go_wp2_with fail
    go_ret2
    exact ⟨by rw [HK.out]; rfl, below_drewN (hB.trans (hB2.mono hB.size)) _⟩
  · have HK := hid hk
    clear hk
    go_wp2_with fail
    go_quiet (fail)
    go_wp2_with fail
    go_ret2
    exact ⟨by rw [HK.out]; rfl, below_drewN (hB.trans (hB2.mono hB.size)) _⟩
end Go.Proofs.Ytifegijnhlbedaa
