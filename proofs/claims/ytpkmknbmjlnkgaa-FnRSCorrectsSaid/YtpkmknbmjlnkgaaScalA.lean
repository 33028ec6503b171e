/- FnRSScales: like lists, a polynomial's list, shifted lists. -/
import Derived.Test.YtpkmknbmjlnkgaaValW
namespace Go.Proofs.Ytpkmknbmjlnkgaa
open Go.RowKit
set_option linter.unusedVariables false

theorem rsSame (A B : Option Addr) (n c d : Nat) (l : List Nat) (w : World) (hA : Rd w A n (ints l)) (hB : Rd w B n (ints l)) (hn : n ≤ 1000000) :
    Calls Try.prog 22 #[.slice A n c, .slice B n d] w (DrewOut (.bool true) w) := by
  go_enter Try.func22, Try.ntmps22
  go_wp2
  go_loopw [5] (fun i wr => ∃ k m : Nat, k ≤ n ∧ i = .int .i64 k ∧ wr = w.drewN m) (fun i _ => n - (intOf i).toNat)
  case atStart => exact ⟨0, 0, by omega, rfl, rfl⟩
  case round =>
    obtain ⟨k, m, hk, rfl, rfl⟩ := hrel
    by_cases hlt : k < n
    · obtain ⟨b, o, rfl, _, d1⟩ := rd_int hA k hlt
      obtain ⟨b', o', rfl, _, d2⟩ := rd_int hB k hlt
      have hl : (k : Int) < n := by omega
      generalize l.getD k 0 = z at *
      clear hA hB
      go_wp2
      go_quiet (fail)
      go_wp2
      go_roundw
      case rel => exact ⟨k + 1, _, by omega, by go_num, rfl⟩
      case measure => simp [intOf]; omega
    · obtain rfl : k = n := by omega
      clear hA hB
      go_wp2
      go_ret
      exact ⟨rfl, _, rfl⟩

/-- A polynomial's coefficients as a new list. -/
def ListOk (l : List Nat) (w : World) (e : Ending) (w' : World) : Prop :=
  ∃ A c, e = .returned (.tuple #[.slice A l.length c, .bool true]) ∧ l.length ≤ c ∧ Rd w' A l.length (ints l) ∧ Below w.heap.size w w'

theorem getCoefs (q n c : Nat) (F : Value) (A : Option Addr) (w : World) (d1 : w.cell? ⟨q, 1, none⟩ = some (.slice A n c)) :
    Calls Try.prog 50 #[.pointer (some ⟨q, 0, none⟩)] w fun e w' => e = .returned (.slice A n c) ∧ w' = w := by
  go_enter Try.func50, Try.ntmps50
  go_wp2
  go_ret
  exact ⟨rfl, rfl⟩

set_option maxHeartbeats 1000000 in
theorem implList (q B : Nat) (F : Value) (l : List Nat) (w : World) (hP : IsPoly w B q F l) (hl : l.length ≤ 1000000) :
    Calls Try.prog 37 #[fieldPtr q, .nilIface] w (ListOk l w) := by
  obtain ⟨i0, hi, hz0, hz1, hz2⟩ := info_parts info3
  obtain ⟨hq, A, n, c, hA, hnc, hr, hR⟩ := hP
  have hn : l.length = n := by have := hR.1; simpa [ints] using this
  have HN := hid hn
  have hn2 : n ≤ 1000000 := by omega
  have d1 : w.cell? ⟨q, 1, none⟩ = some (.slice A n c) := hr.cell? 1
  unfold fieldPtr
  clear hr hn hl
  go_enter Try.func37, Try.ntmps37
  go_wp2_with fail
  refine (getCoefs q n c F A w d1).mono ?_
  rintro e w0 ⟨rfl, rfl⟩
  go_wp2_with (at_builtin; refine wpList_app _ rfl _ _ 30 rfl w0.heap.size 3 i0 _ 8 Try.underlying30 hi hz0 hz1 hz2 rfl _ [] rfl (Own.nil _ _ _) A n c (ints l) rfl hR (ints_one l) (by simp [maxLen]; omega) (by simp; omega) (Nat.le_refl _) ?_)
  intro v w1 hO hg _
  obtain ⟨A', c', hv, hR', hc'⟩ := hO.form
  have hl2 : ([] ++ ints l).length = n := by simp [ints_length, HN.out]
  simp only [List.nil_append] at hv hR' hc' hl2
  rw [hl2] at hv hR' hc'
  subst hv
  have hB : Below w0.heap.size w0 w1 := (Below.refl _ _).grown hg (Nat.le_refl _) (by simp [Value.ownBlock])
  clear hO hg hR d1 hl2
  go_wp2
  go_ret2
  exact ⟨A', c', by rw [HN.out]; rfl, by rw [HN.out]; exact hc', by rw [HN.out]; exact hR', hB⟩

/-- A list with zeros behind it. -/
def shiftl (l : List Nat) (d : Nat) : List Nat := l ++ List.replicate d 0
end Go.Proofs.Ytpkmknbmjlnkgaa
