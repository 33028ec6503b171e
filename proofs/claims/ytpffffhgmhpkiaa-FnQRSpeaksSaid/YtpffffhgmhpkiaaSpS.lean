/- QR codes: segments that come in; laws.zzFits8, zzFits9. -/
import Derived.Test.YtpffffhgmhpkiaaSpE
namespace Go.Proofs.Ytpffffhgmhpkiaa
open Go.RowKit
set_option linter.unusedVariables false
set_option linter.unusedSimpArgs false

/-- Segments that came in: any numbers as modes. -/
def SegI (w : World) (A : Option Addr) (n : Nat) (l : List (Int × List Nat)) : Prop :=
  l.length = n ∧ (0 < n → ∃ b o, A = some ⟨b, o, none⟩ ∧ b < w.heap.size ∧ ∀ k, k < n → ∃ R c, (l.getD k (0, [])).2.length ≤ c ∧ w.cell? ⟨b, o + k * 2, none⟩ = some (.int .i64 (l.getD k (0, [])).1) ∧
    w.cell? ⟨b, o + k * 2 + 1, none⟩ = some (.slice R (l.getD k (0, [])).2.length c) ∧ Rd w R (l.getD k (0, [])).2.length (u8s (l.getD k (0, [])).2))
theorem fits45 (m : Int) (R : Option Addr) (k c : Nat) (hk : k ≤ 9223372036854775807) (w : World) : Calls Try.prog 45 #[.agg #[.int .i64 m, .slice R k c]] w (fun e w' => e = .returned (.bool (decide (k ≤ 2147483647))) ∧ Below w.heap.size w w') := by
  by_cases h : k ≤ 2147483647
  · have h' : ¬ (2147483647 : Int) < (k : Int) := by omega
    go_enter Try.func45, Try.ntmps45
    go_wp2_with fail
    go_ret
    exact ⟨by simp [h], (Below.refl _ _).alloc (Nat.le_refl _) _⟩
  · have h' : (2147483647 : Int) < (k : Int) := by omega
    go_enter Try.func45, Try.ntmps45
    go_wp2_with fail
    go_ret
    exact ⟨by simp [h], (Below.refl _ _).alloc (Nat.le_refl _) _⟩
/-- Whether all texts are short enough, told by a bool. -/
def FitsOut (l : List (Int × List Nat)) (w : World) (e : Ending) (w' : World) : Prop :=
  ∃ b : Bool, e = .returned (.bool b) ∧ (b = true → l.length ≤ 2147483647 ∧ ∀ x ∈ l, x.2.length ≤ 2147483647) ∧ Below w.heap.size w w'
set_option maxRecDepth 20000 in
set_option maxHeartbeats 4000000 in
theorem fits20 (l : List (Int × List Nat)) (A : Option Addr) (N c : Nat) (w : World) (hS : SegI w A N l) (hN63 : N ≤ 9223372036854775807) (hlen : ∀ x ∈ l, x.2.length ≤ 9223372036854775807) : Calls Try.prog 20 #[.slice A N c] w (FitsOut l w) := by
  have HN := hid hS.1
  have HS := hid hS
  have HLE := hid hlen
  clear hS hlen
  by_cases hbig : N ≤ 2147483647
  case neg =>
    have h' : (2147483647 : Int) < (N : Int) := by omega
    go_enter Try.func20, Try.ntmps20
    go_wp2_with fail
    go_ret
    exact ⟨false, rfl, (fun h => by cases h), Below.refl _ _⟩
  case pos =>
  have h' : ¬ (2147483647 : Int) < (N : Int) := by omega
  go_enter Try.func20, Try.ntmps20
  go_wp2_with fail
  go_loopw [10] (fun iv wr => ∃ (k : Nat), k ≤ N ∧ iv = .int .i64 (k : Nat) ∧ Hid (∀ j, j < k → (l.getD j (0, [])).2.length ≤ 2147483647) ∧ Hid (Below w.heap.size w wr)) (fun iv _ => N - (intOf iv).toNat)
  case atStart => exact ⟨0, by omega, rfl, hid (fun j hj => absurd hj (by omega)), hid (Below.refl _ _)⟩
  case round =>
    obtain ⟨k, hk1, rfl, HJ, HB⟩ := hrel
    have hbs := HB.out.size
    by_cases hlt : k < N
    case neg =>
      obtain rfl : k = N := by omega
      have hlt' : ¬ (k : Int) < (k : Int) := by omega
      go_wp2_with fail
      go_ret
      refine ⟨true, rfl, fun _ => ⟨by rw [HN.out]; exact hbig, fun x hx => ?_⟩, HB.out⟩
      obtain ⟨j, hj, rfl⟩ := List.getElem_of_mem hx
      have := HJ.out j (by rw [← HN.out]; exact hj)
      rwa [List.getD, List.getElem?_eq_getElem hj] at this
    case pos =>
      have hlt' : (k : Int) < (N : Int) := by omega
      obtain ⟨b, o, hA, hb, hc⟩ := (HS.out.2 (by omega))
      subst hA
      obtain ⟨R, cR, a0, c0, c1, _⟩ := hc k hlt
      have c0 := (HB.out.cell (p := ⟨b, o + k * 2, none⟩) hb).trans c0
      have c1 := (HB.out.cell (p := ⟨b, o + k * 2 + 1, none⟩) hb).trans c1
      have hkl : k < l.length := by rw [HN.out]; exact hlt
      have hle := HLE.out (l.getD k (0, [])) (by rw [List.getD, List.getElem?_eq_getElem hkl]; exact List.getElem_mem hkl)
      have HJK := hid (fun h2 j (hj : j < k + 1) => show (l.getD j (0, [])).2.length ≤ 2147483647 from by
        by_cases h : j < k
        · exact HJ.out j h
        · obtain rfl : j = k := by omega
          exact h2)
      generalize (l.getD k (0, [])).1 = m at *
      generalize (l.getD k (0, [])).2.length = t at *
      have f6 := fun V => fits45 m R t cR hle V
      have HB1 := hid (HB.out.alloc hbs (.cells #[.int .i64 m, .slice R t cR] 97))
      have hb2 := Nat.lt_of_lt_of_le hb hbs
      clear hc hkl
      by_cases hT : t ≤ 2147483647
      · rw [decide_eq_true hT] at f6
        have HT := hid hT
        clear hT hle
        go_wp2_with fail
        refine (f6 _).mono ?_
        rintro e w5 ⟨rfl, hb5⟩
        have HB5 := hid (HB1.out.trans (hb5.mono HB1.out.size))
        clear hb5 f6
        go_wp2_with fail
        go_roundw
        case rel => first | exact ⟨k + 1, by omega, by go_num, hid (HJK.out HT.out), HB5⟩ | ((repeat apply Exists.intro); exact ⟨⟨k + 1, by omega, rfl, hid (HJK.out HT.out), HB5⟩, rfl⟩)
        case measure => first | (simp [intOf]; done) | (simp [intOf]; omega)
      · rw [decide_eq_false hT] at f6
        clear hT hle
        go_wp2_with fail
        refine (f6 _).mono ?_
        rintro e w5 ⟨rfl, hb5⟩
        have HB5 := hid (HB1.out.trans (hb5.mono HB1.out.size))
        clear hb5 f6
        go_wp2_with fail
        go_ret
        exact ⟨false, rfl, (fun h => by cases h), HB5.out⟩
end Go.Proofs.Ytpffffhgmhpkiaa
