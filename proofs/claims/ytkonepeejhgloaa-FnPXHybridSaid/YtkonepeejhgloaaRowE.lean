/- gozxing.GlobalHistogramBinarizer.estimateBlackPoint for any counts. -/
import Derived.Test.YtkonepeejhgloaaPkL
import Derived.Test.YtkonepeejhgloaaArrW
namespace Go.Proofs.Ytkonepeejhgloaa
open Go.RowKit
set_option linter.unusedVariables false

theorem newExc (s : ByteArray) (v : Value) (w : World) : Calls Try.prog 69 #[.string s, v] w fun e w' => e = .returned (.agg #[.string s, .nilIface]) ∧ Below w.heap.size w w' := by
  go_enter Try.func69, Try.ntmps69
  go_wp2
  exact bodyPost_ret (v := .agg #[.string s, .nilIface]) (by simp [results, Try.results69, go_sem]) rfl ⟨rfl, (Below.refl _ _).alloc (Nat.le_refl _) _⟩
theorem notFound (v : Value) (w : World) : Calls Try.prog 67 #[v] w fun e w' => (∃ u, e = .returned (.iface 130 u)) ∧ Below w.heap.size w w' := by
  go_enter Try.func67, Try.ntmps67
  go_wp2_with fail
  refine (newExc _ _ _).mono ?_
  rintro e w1 ⟨rfl, hb⟩
  go_wp2_with fail
  go_ret
  exact ⟨⟨_, rfl⟩, hb⟩

theorem sq_all (z k p : Nat) (hz : z ≤ 60) (hk : k < 32) (hp : p < 32) :
    ∃ V : Nat, V = z * dsq k p ∧ V ≤ 57660 ∧ -1860 ≤ (z : Int) * ((k : Int) - p) ∧ (z : Int) * ((k : Int) - p) ≤ 1860 ∧ (z : Int) * ((k : Int) - p) * ((k : Int) - p) = (V : Int) := by
  have hd := dsq_le hk hp
  refine ⟨_, rfl, Nat.le_trans (Nat.mul_le_mul hz hd) (by omega), ?_⟩
  rcases Nat.le_total p k with h | h
  · have e : (k : Int) - p = ((k - p : Nat) : Int) := by omega
    have h1 : z * (k - p) ≤ 60 * 31 := Nat.mul_le_mul hz (by omega)
    have e1 : (z : Int) * ((k - p : Nat) : Int) = ((z * (k - p) : Nat) : Int) := by simp
    have e2 : z * dsq k p = z * (k - p) * (k - p) := by unfold dsq; rw [show p - k = 0 from by omega, Nat.zero_mul, Nat.add_zero, Nat.mul_assoc]
    rw [e, e1, e2]
    exact ⟨by omega, by omega, by simp⟩
  · have e : (k : Int) - p = -((p - k : Nat) : Int) := by omega
    have h1 : z * (p - k) ≤ 60 * 31 := Nat.mul_le_mul hz (by omega)
    have e1 : (z : Int) * -((p - k : Nat) : Int) = -((z * (p - k) : Nat) : Int) := by rw [Int.mul_neg]; simp
    have e2 : z * dsq k p = z * (p - k) * (p - k) := by unfold dsq; rw [show k - p = 0 from by omega, Nat.zero_mul, Nat.zero_add, Nat.mul_assoc]
    rw [e, e1, e2]
    exact ⟨by omega, by omega, by rw [Int.neg_mul_neg]; simp⟩
theorem vl_all (c : Nat → Nat) (lo hi m k : Nat) (h1 : lo < k) (h2 : k < hi) (h3 : hi < 32) (hc : c k ≤ m) (hm : m ≤ 60) :
    ∃ X1 X2 X3 : Nat, X3 = vlS c lo hi m k ∧ X1 ≤ 961 ∧ X2 ≤ 29791 ∧ X3 ≤ 2000000 ∧ ((k : Int) - lo) * ((k : Int) - lo) = (X1 : Int) ∧ (X1 : Int) * ((hi : Int) - k) = (X2 : Int) ∧ (X2 : Int) * ((m : Int) - (c k : Int)) = (X3 : Int) := by
  have a1 : (k - lo) * (k - lo) ≤ 31 * 31 := Nat.mul_le_mul (by omega) (by omega)
  have a2 : (k - lo) * (k - lo) * (hi - k) ≤ 31 * 31 * 31 := Nat.mul_le_mul a1 (by omega)
  have a3 : (k - lo) * (k - lo) * (hi - k) * (m - c k) ≤ 31 * 31 * 31 * 60 := Nat.mul_le_mul a2 (by omega)
  refine ⟨(k - lo) * (k - lo), (k - lo) * (k - lo) * (hi - k), (k - lo) * (k - lo) * (hi - k) * (m - c k), rfl, a1, a2, by omega, ?_, ?_, ?_⟩
  · rw [show (k : Int) - lo = ((k - lo : Nat) : Int) by omega]; exact (Int.natCast_mul _ _).symm
  · rw [show (hi : Int) - k = ((hi - k : Nat) : Int) by omega]; exact (Int.natCast_mul _ _).symm
  · rw [show (m : Int) - (c k : Int) = ((m - c k : Nat) : Int) by omega]; exact (Int.natCast_mul _ _).symm

/-- The bound, or no contrast. -/
def EstOut (r : Option Nat) (w : World) (e : Ending) (w' : World) : Prop :=
  Below w.heap.size w w' ∧ ((r = none ∧ ∃ u, e = .returned (.tuple #[.int .i64 0, .iface 130 u])) ∨ ∃ v : Nat, r = some v ∧ v ≤ 256 ∧ e = .returned (.tuple #[.int .i64 v, .nilIface]))

set_option maxRecDepth 100000 in
set_option maxHeartbeats 8000000 in
theorem estimateG (q : Option Addr) (g o cc : Nat) (c : Nat → Nat) (hc : ∀ k, c k ≤ 60) (w : World) (hC : ∀ k, k < 32 → w.cell? ⟨g, o + k, none⟩ = some (.int .i64 (c k : Nat))) :
    Calls Try.prog 63 #[.pointer q, .slice (some ⟨g, o, none⟩) 32 cc] w (EstOut (bound c) w) := by
  have HC := hid hC
  have HN := hid hc
  clear hC hc
  go_enter Try.func63, Try.ntmps63
  go_wp2
  go_loop [7, 8, 9, 10] (fun mx fp fs i => ∃ (k : Nat), k ≤ 32 ∧ i = .int .i64 k ∧ fp = .int .i64 ((pkA c k).1 : Nat) ∧ fs = .int .i64 ((pkA c k).2 : Nat) ∧ mx = .int .i64 ((pkA c k).2 : Nat)) (fun _ _ _ i => 32 - (intOf i).toNat)
  case atStart => exact ⟨0, by omega, rfl, rfl, rfl, rfl⟩
  case round =>
    obtain ⟨k, hk, rfl, rfl, rfl, rfl⟩ := hrel
    by_cases hlt : k < 32
    · have hlt' : (k : Int) < 32 := by omega
      have ck := HC.out k hlt
      have HS := hid (show pkA c (k + 1) = if (pkA c k).2 < c k then (k, c k) else pkA c k from rfl)
      by_cases hg : (pkA c k).2 < c k
      · rw [if_pos hg] at HS
        have hg' : ((pkA c k).2 : Int) < (c k : Int) := by omega
        generalize c k = z at *
        generalize (pkA c k).2 = s at *
        generalize (pkA c k).1 = p at *
        go_wp2
        go_round
        case rel => exact ⟨k + 1, by omega, by go_num, by rw [HS.out], by rw [HS.out], by rw [HS.out]⟩
        case measure => simp [intOf]; omega
      · rw [if_neg hg] at HS
        have hg' : ¬ ((pkA c k).2 : Int) < (c k : Int) := by omega
        generalize c k = z at *
        generalize hs : (pkA c k).2 = s at *
        generalize hp : (pkA c k).1 = p at *
        go_wp2
        go_round
        case rel => exact ⟨k + 1, by omega, by go_num, by rw [HS.out, hp], by rw [HS.out, hs], by rw [HS.out, hs]⟩
        case measure => simp [intOf]; omega
    · obtain rfl : k = 32 := by omega
      obtain ⟨hM, hMx, hp32, _⟩ := pkA_le c HN.out 32
      have hp : (pkA c 32).1 < 32 := by omega
      have HMX := hid hMx
      have HBD := hid (show bound c = if max (pkA c 32).1 (pkB c (pkA c 32).1 32).1 - min (pkA c 32).1 (pkB c (pkA c 32).1 32).1 ≤ 2 then none else some ((pkV c (min (pkA c 32).1 (pkB c (pkA c 32).1 32).1) (max (pkA c 32).1 (pkB c (pkA c 32).1 32).1) (pkA c 32).2 (max (pkA c 32).1 (pkB c (pkA c 32).1 32).1 - 1 - min (pkA c 32).1 (pkB c (pkA c 32).1 32).1)).1 * 8) from rfl)
      generalize (pkA c 32).1 = p at *
      generalize (pkA c 32).2 = m at *
      clear hMx hp32 hlt
      go_wp2
      go_loop [11, 12, 13] (fun sp sc i => ∃ (k : Nat), k ≤ 32 ∧ i = .int .i64 k ∧ sp = .int .i64 ((pkB c p k).1 : Nat) ∧ sc = .int .i64 ((pkB c p k).2 : Nat) ∧ (pkB c p k).2 ≤ 57660) (fun _ _ i => 32 - (intOf i).toNat)
      case atStart => exact ⟨0, by omega, rfl, rfl, rfl, by simp [pkB]⟩
      case round =>
        obtain ⟨k, hk, rfl, rfl, rfl, hsc⟩ := hrel
        by_cases hlt : k < 32
        · have hlt' : (k : Int) < 32 := by omega
          have ck := HC.out k hlt
          have hz := HN.out k
          have HS := hid (show pkB c p (k + 1) = if (pkB c p k).2 < c k * dsq k p then (k, c k * dsq k p) else pkB c p k from rfl)
          obtain ⟨V, hV, hVb, b1, b2, e2⟩ := sq_all (c k) k p hz hlt hp
          rw [← hV] at HS
          by_cases hg : (pkB c p k).2 < V
          · rw [if_pos hg] at HS
            have hg' : ((pkB c p k).2 : Int) < (V : Int) := by omega
            generalize c k = z at *
            generalize (pkB c p k).2 = s at *
            generalize (pkB c p k).1 = u at *
            clear hV
            go_wp2
            go_round
            case rel => exact ⟨k + 1, by omega, by go_num, by rw [HS.out], by rw [HS.out], by rw [HS.out]; exact hVb⟩
            case measure => simp [intOf]; omega
          · rw [if_neg hg] at HS
            have hg' : ¬ ((pkB c p k).2 : Int) < (V : Int) := by omega
            generalize c k = z at *
            generalize hs : (pkB c p k).2 = s at *
            generalize hu : (pkB c p k).1 = u at *
            clear hV
            go_wp2
            go_round
            case rel => exact ⟨k + 1, by omega, by go_num, by rw [HS.out, hu], by rw [HS.out, hs], by rw [HS.out, hs]; exact hsc⟩
            case measure => simp [intOf]; omega
        · obtain rfl : k = 32 := by omega
          have hu32 := pkB_le c p 32
          have hq : (pkB c p 32).1 < 32 := by omega
          generalize (pkB c p 32).1 = u at *
          generalize (pkB c p 32).2 = s at *
          clear hu32 hlt
          by_cases hord : u < p
          · have hord' : (u : Int) < (p : Int) := by omega
            rw [Nat.max_eq_left (by omega), Nat.min_eq_right (by omega)] at HBD
            by_cases hd : p - u ≤ 2
            · rw [if_pos hd] at HBD
              have hd1 : (p : Int) - (u : Int) ≤ 2 := by omega
              clear hd
              go_wp2_with fail
              refine (notFound _ _).mono ?_
              rintro e w1 ⟨⟨uu, rfl⟩, hb⟩
              go_wp2_with fail
              go_ret2
              exact ⟨hb, .inl ⟨HBD.out, uu, rfl⟩⟩
            · rw [if_neg hd] at HBD
              have hd1 : ¬ (p : Int) - (u : Int) ≤ 2 := by omega
              have hd2 : u + 2 < p := by omega
              clear hd
              go_wp2_with fail
              go_loop [16, 17, 18] (fun bv bs xv => ∃ (t : Nat), t ≤ p - 1 - u ∧ xv = .int .i64 ((p - 1 - t : Nat) : Int) ∧ bv = .int .i64 ((pkV c u p m t).1 : Nat) ∧ bs = .int .i64 (pkV c u p m t).2 ∧ (pkV c u p m t).1 < 32 ∧ -1 ≤ (pkV c u p m t).2 ∧ (pkV c u p m t).2 ≤ 2000000) (fun _ _ xv => (intOf xv).toNat)
              case atStart => exact ⟨0, by omega, by congr 1; omega, by simp only [pkV]; congr 1; omega, rfl, by simp only [pkV]; omega, by simp [pkV], by simp [pkV]⟩
              case round =>
                obtain ⟨t, ht, rfl, rfl, rfl, hv1, hs1, hs2⟩ := hrel
                by_cases hgo : t < p - 1 - u
                · have HK := hid (show p - 1 - (t + 1) = p - 1 - t - 1 from by omega)
                  have HS := hid (show pkV c u p m (t + 1) = if (pkV c u p m t).2 < (vlS c u p m (p - 1 - t) : Int) then (p - 1 - t, (vlS c u p m (p - 1 - t) : Int)) else pkV c u p m t from rfl)
                  have hk1 : u < p - 1 - t := by omega
                  have hk2 : p - 1 - t < p := by omega
                  have ht1 : t + 1 ≤ p - 1 - u := by omega
                  have ck := HC.out (p - 1 - t) (by omega)
                  obtain ⟨X1, X2, X3, hX, x1, x2, x3, e1, e2, e3⟩ := vl_all c u p m (p - 1 - t) hk1 hk2 (by omega) (HMX.out _ (by omega)) hM
                  rw [← hX] at HS
                  have hzz := HN.out (p - 1 - t)
                  have hzm := HMX.out (p - 1 - t) (by omega)
                  generalize p - 1 - t = k at *
                  have hk1' : (u : Int) < (k : Int) := by omega
                  by_cases hg : (pkV c u p m t).2 < (X3 : Int)
                  · rw [if_pos hg] at HS
                    generalize c k = z at *
                    generalize (pkV c u p m t).2 = sc at *
                    generalize (pkV c u p m t).1 = vv at *
                    clear hX
                    go_wp2
                    go_round
                    case rel => exact ⟨t + 1, ht1, by rw [HK.out]; congr 1; omega, by rw [HS.out], by rw [HS.out], by rw [HS.out]; simp only; omega, by rw [HS.out]; simp only; omega, by rw [HS.out]; simp only; omega⟩
                    case measure => simp [intOf]; omega
                  · rw [if_neg hg] at HS
                    generalize c k = z at *
                    generalize hs : (pkV c u p m t).2 = sc at *
                    generalize hvv : (pkV c u p m t).1 = vv at *
                    clear hX
                    go_wp2
                    go_round
                    case rel => exact ⟨t + 1, ht1, by rw [HK.out]; congr 1; omega, by rw [HS.out, hvv], by rw [HS.out, hs], by rw [HS.out, hvv]; omega, by rw [HS.out, hs]; exact hs1, by rw [HS.out, hs]; exact hs2⟩
                    case measure => simp [intOf]; omega
                · obtain rfl : t = p - 1 - u := by omega
                  have HE := HBD.out
                  generalize (pkV c u p m (p - 1 - u)).1 = vv at *
                  generalize (pkV c u p m (p - 1 - u)).2 = sc at *
                  have hgo' : ¬ (u : Int) < ((p - 1 - (p - 1 - u) : Nat) : Int) := by omega
                  generalize p - 1 - (p - 1 - u) = kk at *
                  clear HBD hgo
                  have HE2 := hid HE
                  clear HE
                  go_wp2
                  go_ret2
                  exact ⟨Below.refl _ _, .inr ⟨vv * 8, HE2.out, by omega, congrArg (fun z => Ending.returned (.tuple #[.int .i64 z, .nilIface])) (show (vv : Int) * 8 = ((vv * 8 : Nat) : Int) from by omega)⟩⟩
          · have hord' : ¬ (u : Int) < (p : Int) := by omega
            rw [Nat.max_eq_right (by omega), Nat.min_eq_left (by omega)] at HBD
            by_cases hd : u - p ≤ 2
            · rw [if_pos hd] at HBD
              have hd1 : (u : Int) - (p : Int) ≤ 2 := by omega
              clear hd
              go_wp2_with fail
              refine (notFound _ _).mono ?_
              rintro e w1 ⟨⟨uu, rfl⟩, hb⟩
              go_wp2_with fail
              go_ret2
              exact ⟨hb, .inl ⟨HBD.out, uu, rfl⟩⟩
            · rw [if_neg hd] at HBD
              have hd1 : ¬ (u : Int) - (p : Int) ≤ 2 := by omega
              have hd2 : p + 2 < u := by omega
              clear hd
              go_wp2_with fail
              go_loop [16, 17, 18] (fun bv bs xv => ∃ (t : Nat), t ≤ u - 1 - p ∧ xv = .int .i64 ((u - 1 - t : Nat) : Int) ∧ bv = .int .i64 ((pkV c p u m t).1 : Nat) ∧ bs = .int .i64 (pkV c p u m t).2 ∧ (pkV c p u m t).1 < 32 ∧ -1 ≤ (pkV c p u m t).2 ∧ (pkV c p u m t).2 ≤ 2000000) (fun _ _ xv => (intOf xv).toNat)
              case atStart => exact ⟨0, by omega, by congr 1; omega, by simp only [pkV]; congr 1; omega, rfl, by simp only [pkV]; omega, by simp [pkV], by simp [pkV]⟩
              case round =>
                obtain ⟨t, ht, rfl, rfl, rfl, hv1, hs1, hs2⟩ := hrel
                by_cases hgo : t < u - 1 - p
                · have HK := hid (show u - 1 - (t + 1) = u - 1 - t - 1 from by omega)
                  have HS := hid (show pkV c p u m (t + 1) = if (pkV c p u m t).2 < (vlS c p u m (u - 1 - t) : Int) then (u - 1 - t, (vlS c p u m (u - 1 - t) : Int)) else pkV c p u m t from rfl)
                  have hk1 : p < u - 1 - t := by omega
                  have hk2 : u - 1 - t < u := by omega
                  have ht1 : t + 1 ≤ u - 1 - p := by omega
                  have ck := HC.out (u - 1 - t) (by omega)
                  obtain ⟨X1, X2, X3, hX, x1, x2, x3, e1, e2, e3⟩ := vl_all c p u m (u - 1 - t) hk1 hk2 (by omega) (HMX.out _ (by omega)) hM
                  rw [← hX] at HS
                  have hzz := HN.out (u - 1 - t)
                  have hzm := HMX.out (u - 1 - t) (by omega)
                  generalize u - 1 - t = k at *
                  have hk1' : (p : Int) < (k : Int) := by omega
                  by_cases hg : (pkV c p u m t).2 < (X3 : Int)
                  · rw [if_pos hg] at HS
                    generalize c k = z at *
                    generalize (pkV c p u m t).2 = sc at *
                    generalize (pkV c p u m t).1 = vv at *
                    clear hX
                    go_wp2
                    go_round
                    case rel => exact ⟨t + 1, ht1, by rw [HK.out]; congr 1; omega, by rw [HS.out], by rw [HS.out], by rw [HS.out]; simp only; omega, by rw [HS.out]; simp only; omega, by rw [HS.out]; simp only; omega⟩
                    case measure => simp [intOf]; omega
                  · rw [if_neg hg] at HS
                    generalize c k = z at *
                    generalize hs : (pkV c p u m t).2 = sc at *
                    generalize hvv : (pkV c p u m t).1 = vv at *
                    clear hX
                    go_wp2
                    go_round
                    case rel => exact ⟨t + 1, ht1, by rw [HK.out]; congr 1; omega, by rw [HS.out, hvv], by rw [HS.out, hs], by rw [HS.out, hvv]; omega, by rw [HS.out, hs]; exact hs1, by rw [HS.out, hs]; exact hs2⟩
                    case measure => simp [intOf]; omega
                · obtain rfl : t = u - 1 - p := by omega
                  have HE := HBD.out
                  generalize (pkV c p u m (u - 1 - p)).1 = vv at *
                  generalize (pkV c p u m (u - 1 - p)).2 = sc at *
                  have hgo' : ¬ (p : Int) < ((u - 1 - (u - 1 - p) : Nat) : Int) := by omega
                  generalize u - 1 - (u - 1 - p) = kk at *
                  clear HBD hgo
                  have HE2 := hid HE
                  clear HE
                  go_wp2
                  go_ret2
                  exact ⟨Below.refl _ _, .inr ⟨vv * 8, HE2.out, by omega, congrArg (fun z => Ending.returned (.tuple #[.int .i64 z, .nilIface])) (show (vv : Int) * 8 = ((vv * 8 : Nat) : Int) from by omega)⟩⟩
end Go.Proofs.Ytkonepeejhgloaa
