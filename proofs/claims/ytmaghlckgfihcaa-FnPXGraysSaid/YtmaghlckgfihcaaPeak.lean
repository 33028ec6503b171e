/- FnPXPeaks: the bound between two groups of grays. -/
import Derived.Test.YtmaghlckgfihcaaProg
import Derived.Test.YtmaghlckgfihcaaMem
import Derived.Test.YtmaghlckgfihcaaBits
import Derived.BigQuiet
import Derived.Deep.QuietTactic
import Derived.KernelRfl
namespace Go.Proofs.Ytmaghlckgfihcaa
open Go.RowKit
set_option linter.unusedVariables false

theorem info3 : (Try.prog.info? 3).map (fun i => (i.zero, i.size, i.bytes)) = some (some (.int .i64 0), 1, 8) := by kernel_rfl

/-- The counts: a at x, b at y, nothing elsewhere. -/
def cn (x y a b k : Nat) : Nat := if k = y then b else if k = x then a else 0
/-- The highest count among the first k, and where it is. -/
def St (x y a b k fp fs : Nat) : Prop := (fs = 0 ∧ fp = 0 ∧ k ≤ x ∧ k ≤ y) ∨ (((fp = x ∧ fs = a) ∨ (fp = y ∧ fs = b)) ∧ 0 < fs ∧ (x < k → a ≤ fs) ∧ (y < k → b ≤ fs))
theorem st_step1 {x y a b k fp fs : Nat} (hxy : x ≠ y) (ha : 0 < a) (hb : 0 < b) (h : St x y a b k fp fs) (hg : fs < cn x y a b k) : St x y a b (k + 1) k (cn x y a b k) := by
  unfold St cn at *
  split at hg
  · rename_i e; subst e; rw [if_pos rfl]; right; refine ⟨.inr ⟨rfl, rfl⟩, hb, fun h1 => ?_, fun _ => Nat.le_refl _⟩; rcases h with h2 | h2 <;> omega
  · split at hg
    · rename_i e1 e; subst e; rw [if_neg e1, if_pos rfl]; right; refine ⟨.inl ⟨rfl, rfl⟩, ha, fun _ => Nat.le_refl _, fun h1 => ?_⟩; rcases h with h2 | h2 <;> omega
    · omega
theorem st_step2 {x y a b k fp fs : Nat} (hxy : x ≠ y) (ha : 0 < a) (hb : 0 < b) (h : St x y a b k fp fs) (hg : ¬ fs < cn x y a b k) : St x y a b (k + 1) fp fs := by
  unfold St cn at *
  split at hg
  · rename_i e; subst e; rcases h with h2 | h2
    · omega
    · right; refine ⟨h2.1, h2.2.1, fun h1 => h2.2.2.1 (by omega), fun _ => by omega⟩
  · split at hg
    · rename_i e1 e; subst e; rcases h with h2 | h2
      · omega
      · right; refine ⟨h2.1, h2.2.1, fun _ => by omega, fun h1 => h2.2.2.2 (by omega)⟩
    · rcases h with h2 | h2
      · left; omega
      · right; exact ⟨h2.1, h2.2.1, fun h1 => h2.2.2.1 (by omega), fun h1 => h2.2.2.2 (by omega)⟩
theorem cn_swap {x y a b : Nat} (hxy : x ≠ y) (k : Nat) : cn x y a b k = cn y x b a k := by
  unfold cn; split <;> split <;> omega
theorem st_end {x y a b fp fs : Nat} (hx : x < 32) (hy : y < 32) (ha : 0 < a) (hb : 0 < b) (hxy : x ≠ y) (h : St x y a b 32 fp fs) : ∃ o co, o ≠ fp ∧ fp < 32 ∧ o < 32 ∧ 0 < fs ∧ 0 < co ∧ (∀ k, cn x y a b k = cn o fp co fs k) ∧ ((fp = x ∧ o = y ∧ fs = a ∧ co = b) ∨ (fp = y ∧ o = x ∧ fs = b ∧ co = a)) := by
  unfold St at h
  rcases h with h1 | ⟨⟨rfl, rfl⟩ | ⟨rfl, rfl⟩, h2⟩
  · omega
  · exact ⟨y, b, fun e => hxy e.symm, hx, hy, ha, hb, fun k => cn_swap hxy k, .inl ⟨rfl, rfl, rfl, rfl⟩⟩
  · exact ⟨x, a, hxy, hy, hx, hb, ha, fun k => rfl, .inr ⟨rfl, rfl, rfl, rfl⟩⟩

theorem newExc (s : ByteArray) (v : Value) (w : World) : Calls Try.prog 54 #[.string s, v] w fun e w' => e = .returned (.agg #[.string s, .nilIface]) ∧ Below w.heap.size w w' := by
  go_enter Try.func54, Try.ntmps54
  go_wp2
  exact bodyPost_ret (v := .agg #[.string s, .nilIface]) (by simp [results, Try.results54, go_sem]) rfl ⟨rfl, (Below.refl _ _).alloc (Nat.le_refl _) _⟩
theorem notFound (v : Value) (w : World) : Calls Try.prog 53 #[v] w fun e w' => (∃ u, e = .returned (.iface 102 u)) ∧ Below w.heap.size w w' := by
  go_enter Try.func53, Try.ntmps53
  go_wp2_with fail
  refine (newExc _ _ _).mono ?_
  rintro e w1 ⟨rfl, hb⟩
  go_wp2_with fail
  go_ret
  exact ⟨⟨_, rfl⟩, hb⟩

def ints (l : List Nat) : List Value := l.map fun x => .int .i64 (x : Nat)
theorem cn_le {x y a b : Nat} (ha : a ≤ 65535) (hb : b ≤ 65535) (k : Nat) : cn x y a b k ≤ 65535 := by
  unfold cn
  split
  · exact hb
  · split
    · exact ha
    · omega
theorem sq_bd (c k p : Nat) (hc : 1 ≤ c) (hc2 : c ≤ 65535) (hk : k < 32) (hp : p < 32) (hne : k ≠ p) :
    -2031585 ≤ (c : Int) * ((k : Int) - p) ∧ (c : Int) * ((k : Int) - p) ≤ 2031585 ∧ ∃ V : Nat, 0 < V ∧ V ≤ 100000000 ∧ (c : Int) * ((k : Int) - p) * ((k : Int) - p) = (V : Int) := by
  obtain ⟨e, he, he1, he2⟩ : ∃ e : Nat, ((k : Int) - p = e ∨ (k : Int) - p = -(e : Int)) ∧ 1 ≤ e ∧ e ≤ 31 := by
    rcases (by omega : p < k ∨ k < p) with h | h
    · exact ⟨k - p, .inl (by omega), by omega, by omega⟩
    · exact ⟨p - k, .inr (by omega), by omega, by omega⟩
  have h1 : c * e ≤ 65535 * 31 := Nat.mul_le_mul hc2 he2
  have h2 : c * e * e ≤ 65535 * 31 * 31 := Nat.mul_le_mul h1 he2
  have h3 : 0 < c * e * e := Nat.mul_pos (Nat.mul_pos hc he1) he1
  rcases he with he | he <;> rw [he]
  · refine ⟨?_, ?_, c * e * e, h3, by omega, ?_⟩
    · have : (c : Int) * (e : Int) = ((c * e : Nat) : Int) := by push_cast; rfl
      omega
    · have : (c : Int) * (e : Int) = ((c * e : Nat) : Int) := by push_cast; rfl
      omega
    · push_cast; rfl
  · refine ⟨?_, ?_, c * e * e, h3, by omega, ?_⟩
    · have : (c : Int) * -(e : Int) = -((c * e : Nat) : Int) := by rw [Int.mul_neg]; push_cast; rfl
      omega
    · have : (c : Int) * -(e : Int) = -((c * e : Nat) : Int) := by rw [Int.mul_neg]; push_cast; rfl
      omega
    · simp only [Int.mul_neg, Int.neg_mul, Int.neg_neg]; push_cast; rfl
theorem vl_bd (k lo hi s : Nat) (h1 : lo < k) (h2 : k < hi) (h3 : hi < 32) (hs : s ≤ 65535) :
    ∃ X1 X2 X3 : Nat, X1 ≤ 961 ∧ X2 ≤ 29791 ∧ X3 ≤ 2000000000 ∧ ((k : Int) - lo) * ((k : Int) - lo) = (X1 : Int) ∧ (X1 : Int) * ((hi : Int) - k) = (X2 : Int) ∧ (X2 : Int) * (s : Int) = (X3 : Int) := by
  have a1 : (k - lo) * (k - lo) ≤ 31 * 31 := Nat.mul_le_mul (by omega) (by omega)
  have a2 : (k - lo) * (k - lo) * (hi - k) ≤ 31 * 31 * 31 := Nat.mul_le_mul a1 (by omega)
  have a3 : (k - lo) * (k - lo) * (hi - k) * s ≤ 31 * 31 * 31 * 65535 := Nat.mul_le_mul a2 hs
  refine ⟨(k - lo) * (k - lo), (k - lo) * (k - lo) * (hi - k), (k - lo) * (k - lo) * (hi - k) * s, a1, a2, by omega, ?_, ?_, ?_⟩
  · rw [show (k : Int) - lo = ((k - lo : Nat) : Int) by omega]; exact (Int.natCast_mul _ _).symm
  · rw [show (hi : Int) - k = ((hi - k : Nat) : Int) by omega]; exact (Int.natCast_mul _ _).symm
  · exact (Int.natCast_mul _ _).symm
theorem ret_in {a b : Int} (h : a = b) : Ending.returned (.tuple #[.int .i64 a, .nilIface]) = .returned (.tuple #[.int .i64 b, .nilIface]) := by rw [h]
/-- The bound lies between the two groups, or none is told. -/
def PkOut (lo hi : Nat) (w : World) (e : Ending) (w' : World) : Prop :=
  ((hi ≤ lo + 2 ∧ ∃ u, e = .returned (.tuple #[.int .i64 0, .iface 102 u])) ∨ (lo + 2 < hi ∧ ∃ v : Nat, lo < v ∧ v < hi ∧ e = .returned (.tuple #[.int .i64 ((8 * v : Nat) : Int), .nilIface]))) ∧ Below w.heap.size w w'

set_option maxRecDepth 100000 in
set_option maxHeartbeats 4000000 in
theorem estimate (q : Option Addr) (x y a b g o c : Nat) (w : World) (hx : x < 32) (hy : y < 32) (hxy : x ≠ y) (ha : 0 < a) (hb : 0 < b) (ha2 : a ≤ 65535) (hb2 : b ≤ 65535) (hC : ∀ k, k < 32 → w.cell? ⟨g, o + k, none⟩ = some (.int .i64 (cn x y a b k : Nat))) :
    Calls Try.prog 48 #[.pointer q, .slice (some ⟨g, o, none⟩) 32 c] w (PkOut (min x y) (max x y) w) := by
  have HC := hid hC
  have hcn : ∀ k, cn x y a b k ≤ 65535 := cn_le ha2 hb2
  have HN := hid hcn
  have HXY := hid hxy
  clear hC hcn hxy
  go_enter Try.func48, Try.ntmps48
  go_wp2
  go_loop [7, 8, 9, 10] (fun mx fp fs i => ∃ (k p s : Nat), k ≤ 32 ∧ i = .int .i64 k ∧ fp = .int .i64 p ∧ fs = .int .i64 s ∧ mx = .int .i64 s ∧ Hid (St x y a b k p s)) (fun _ _ _ i => 32 - (intOf i).toNat)
  case atStart => exact ⟨0, 0, 0, by omega, rfl, rfl, rfl, rfl, hid (.inl ⟨rfl, rfl, Nat.zero_le _, Nat.zero_le _⟩)⟩
  case round =>
    obtain ⟨k, p, s, hk, rfl, rfl, rfl, rfl, HSt⟩ := hrel
    by_cases hlt : k < 32
    · have hlt' : (k : Int) < 32 := by omega
      have ck := HC.out k hlt
      have h1 := HN.out k
      by_cases hg : s < cn x y a b k
      · have HS2 := hid (st_step1 HXY.out ha hb HSt.out hg)
        generalize cn x y a b k = z at *
        have hg' : (s : Int) < (z : Int) := by omega
        go_wp2
        go_round
        case rel => exact ⟨k + 1, k, z, by omega, by go_num, rfl, rfl, rfl, HS2⟩
        case measure => simp [intOf]; omega
      · have HS2 := hid (st_step2 HXY.out ha hb HSt.out hg)
        generalize cn x y a b k = z at *
        have hg' : ¬ (s : Int) < (z : Int) := by omega
        go_wp2
        go_round
        case rel => exact ⟨k + 1, p, s, by omega, by go_num, rfl, rfl, rfl, HS2⟩
        case measure => simp [intOf]; omega
    · obtain rfl : k = 32 := by omega
      obtain ⟨q2, co, hne, hp, hq, hs, hco, hcq, hend⟩ := st_end hx hy ha hb HXY.out HSt.out
      have hs2 : s ≤ 65535 := by rcases hend with h | h <;> omega
      have hco2 : co ≤ 65535 := by rcases hend with h | h <;> omega
      have HE := hid (show min x y = min p q2 ∧ max x y = max p q2 by rcases hend with h | h <;> omega)
      have HC2 : Hid (∀ k, k < 32 → w.cell? ⟨g, o + k, none⟩ = some (.int .i64 (cn q2 p co s k : Nat))) := hid (fun k hk => by rw [← hcq k]; exact HC.out k hk)
      clear hend hcq HSt HC HN HXY hlt hx hy ha hb ha2 hb2
      have HNE := hid hne
      clear hne
      go_wp2
      go_loop [11, 12, 13] (fun sp sc i => ∃ (k u v : Nat), k ≤ 32 ∧ i = .int .i64 k ∧ sp = .int .i64 u ∧ sc = .int .i64 v ∧ ((k ≤ q2 ∧ v = 0) ∨ (q2 < k ∧ u = q2 ∧ 0 < v ∧ v ≤ 100000000))) (fun _ _ i => 32 - (intOf i).toNat)
      case atStart => exact ⟨0, 0, 0, by omega, rfl, rfl, rfl, .inl ⟨by omega, rfl⟩⟩
      case round =>
        obtain ⟨k, u, v, hk, rfl, rfl, rfl, hSt⟩ := hrel
        by_cases hlt : k < 32
        · have hlt' : (k : Int) < 32 := by omega
          have ck := HC2.out k hlt
          by_cases hkq : k = q2
          · subst hkq
            have hv0 : v = 0 := by rcases hSt with h | h <;> omega
            subst hv0
            have hcn : cn k p co s k = co := by simp [cn]; intro h; exact absurd h HNE.out
            rw [hcn] at ck
            obtain ⟨b1, b2, V, hV1, hV2, hV⟩ := sq_bd co k p (by omega) hco2 hlt hp HNE.out
            have hgt : (0 : Int) < (V : Int) := by omega
            clear hcn hSt
            go_wp2
            go_round
            case rel => exact ⟨k + 1, k, V, by omega, by go_num, rfl, rfl, .inr ⟨by omega, rfl, hV1, hV2⟩⟩
            case measure => simp [intOf]; omega
          · have hnx : (k < q2 → k + 1 ≤ q2) := fun h => h
            have hSt2 := hid (show (k + 1 ≤ q2 ∧ v = 0) ∨ (q2 < k + 1 ∧ u = q2 ∧ 0 < v ∧ v ≤ 100000000) by rcases hSt with h | h; exact .inl ⟨by omega, h.2⟩; exact .inr ⟨by omega, h.2⟩)
            have hvb : v ≤ 100000000 := by rcases hSt with h | h <;> omega
            have hv0 : ¬ (v : Int) < 0 := by omega
            by_cases hkp : k = p
            · subst hkp
              have hcn : cn q2 k co s k = s := by simp [cn]
              rw [hcn] at ck
              clear hcn hSt
              go_wp2
              go_round
              case rel => exact ⟨k + 1, u, v, by omega, by go_num, rfl, rfl, hSt2.out⟩
              case measure => simp [intOf]; omega
            · have hcn : cn q2 p co s k = 0 := by unfold cn; rw [if_neg hkp, if_neg hkq]
              rw [hcn] at ck
              simp only [Int.natCast_zero] at ck
              clear hcn hSt
              go_wp2
              go_round
              case rel => exact ⟨k + 1, u, v, by omega, by go_num, rfl, rfl, hSt2.out⟩
              case measure => simp [intOf]; omega
        · obtain rfl : k = 32 := by omega
          have hq2 : u = q2 := by rcases hSt with h | h <;> omega
          subst hq2
          clear hSt
          by_cases hord : p < u
          · have ho1 : ¬ (u : Int) < (p : Int) := by omega
            by_cases hd : u ≤ p + 2
            · have hd1 : (u : Int) - (p : Int) ≤ 2 := by omega
              have hd2 := hid hd
              clear hd
              go_wp2_with fail
              refine (notFound _ _).mono ?_
              rintro e w1 ⟨⟨uu, rfl⟩, hb⟩
              go_wp2_with fail
              go_ret2
              exact ⟨.inl ⟨by have := hd2.out; have := HE.out; omega, uu, rfl⟩, hb⟩
            · have hd1 : ¬ (u : Int) - (p : Int) ≤ 2 := by omega
              have hd2 : p + 2 < u := by omega
              clear hd
              go_wp2_with fail
              go_loop [16, 17, 18] (fun bv bs xv => ∃ (k v : Nat) (sc : Int), p ≤ k ∧ k < u ∧ xv = .int .i64 k ∧ bv = .int .i64 v ∧ p < v ∧ v < u ∧ bs = .int .i64 sc ∧ -1 ≤ sc ∧ sc ≤ 2000000000) (fun _ _ xv => (intOf xv).toNat)
              case atStart => exact ⟨u - 1, u - 1, -1, by omega, by omega, by congr 1; omega, by congr 1; omega, by omega, by omega, rfl, by omega, by omega⟩
              case round =>
                obtain ⟨k, vv, sc, hk1, hk2, rfl, rfl, hv1, hv2, rfl, hs1, hs3⟩ := hrel
                by_cases hgo : p < k
                · have hgo' : (p : Int) < (k : Int) := by omega
                  have hk32 : (k : Int) < 32 := by omega
                  have ck := HC2.out k (by omega)
                  have hcn : cn u p co s k = 0 := by unfold cn; rw [if_neg (by omega), if_neg (by omega)]
                  rw [hcn] at ck
                  simp only [Int.natCast_zero] at ck
                  obtain ⟨X1, X2, X3, x1, x2, x3, e1, e2, e3⟩ := vl_bd k p u s hgo hk2 (by omega) hs2
                  clear hcn
                  go_wp2
                  all_goals (
                    go_round
                    case rel => first | exact ⟨k - 1, k, X3, by omega, by omega, by congr 1; omega, rfl, by omega, by omega, rfl, by omega, by omega⟩ | exact ⟨k - 1, vv, sc, by omega, by omega, by congr 1; omega, rfl, by omega, by omega, rfl, by omega, by omega⟩
                    case measure => simp [intOf]; omega)
                · have hgo' : ¬ (p : Int) < (k : Int) := by omega
                  go_wp2
                  go_ret2
                  exact ⟨.inr ⟨by have := HE.out; omega, vv, by have := HE.out; omega, by have := HE.out; omega, ret_in (by push_cast; omega)⟩, Below.refl _ _⟩
          · have ho1 : (u : Int) < (p : Int) := by have := HNE.out; omega
            by_cases hd : p ≤ u + 2
            · have hd1 : (p : Int) - (u : Int) ≤ 2 := by omega
              have hd2 := hid hd
              clear hd
              go_wp2_with fail
              refine (notFound _ _).mono ?_
              rintro e w1 ⟨⟨uu, rfl⟩, hb⟩
              go_wp2_with fail
              go_ret2
              exact ⟨.inl ⟨by have := hd2.out; have := HE.out; omega, uu, rfl⟩, hb⟩
            · have hd1 : ¬ (p : Int) - (u : Int) ≤ 2 := by omega
              have hd2 : u + 2 < p := by omega
              clear hd
              go_wp2_with fail
              go_loop [16, 17, 18] (fun bv bs xv => ∃ (k v : Nat) (sc : Int), u ≤ k ∧ k < p ∧ xv = .int .i64 k ∧ bv = .int .i64 v ∧ u < v ∧ v < p ∧ bs = .int .i64 sc ∧ -1 ≤ sc ∧ sc ≤ 2000000000) (fun _ _ xv => (intOf xv).toNat)
              case atStart => exact ⟨p - 1, p - 1, -1, by omega, by omega, by congr 1; omega, by congr 1; omega, by omega, by omega, rfl, by omega, by omega⟩
              case round =>
                obtain ⟨k, vv, sc, hk1, hk2, rfl, rfl, hv1, hv2, rfl, hs1, hs3⟩ := hrel
                by_cases hgo : u < k
                · have hgo' : (u : Int) < (k : Int) := by omega
                  have hk32 : (k : Int) < 32 := by omega
                  have ck := HC2.out k (by omega)
                  have hcn : cn u p co s k = 0 := by unfold cn; rw [if_neg (by omega), if_neg (by omega)]
                  rw [hcn] at ck
                  simp only [Int.natCast_zero] at ck
                  obtain ⟨X1, X2, X3, x1, x2, x3, e1, e2, e3⟩ := vl_bd k u p s hgo hk2 (by omega) hs2
                  clear hcn
                  go_wp2
                  all_goals (
                    go_round
                    case rel => first | exact ⟨k - 1, k, X3, by omega, by omega, by congr 1; omega, rfl, by omega, by omega, rfl, by omega, by omega⟩ | exact ⟨k - 1, vv, sc, by omega, by omega, by congr 1; omega, rfl, by omega, by omega, rfl, by omega, by omega⟩
                    case measure => simp [intOf]; omega)
                · have hgo' : ¬ (u : Int) < (k : Int) := by omega
                  go_wp2
                  go_ret2
                  exact ⟨.inr ⟨by have := HE.out; omega, vv, by have := HE.out; omega, by have := HE.out; omega, ret_in (by push_cast; omega)⟩, Below.refl _ _⟩
end Go.Proofs.Ytmaghlckgfihcaa
