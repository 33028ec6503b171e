/- The walks of FnBISources: like lists. -/
import Derived.Test.YtifegijnhlbedaaSrcR
namespace Go.Proofs.Ytifegijnhlbedaa
open Go.RowKit
set_option linter.unusedVariables false

theorem rd_v {w : World} {A : Option Addr} {n : Nat} {l : List Value} (h : Rd w A n l) (j : Nat) (hj : j < n) :
    ∃ b o v, A = some ⟨b, o, none⟩ ∧ l[j]? = some v ∧ w.cell? ⟨b, o + j, none⟩ = some v := by
  obtain ⟨hl, h2⟩ := h
  obtain ⟨b, o, hA, hb, hc⟩ := h2 (by omega)
  exact ⟨b, o, l[j]'(by omega), hA, List.getElem?_eq_getElem (by omega), hc j (by omega)⟩

theorem sameInts (A B : Option Addr) (n c d : Nat) (f : Nat → Int) (w : World) (hA : Rd w A n ((List.range n).map fun i => .int .i64 (f i))) (hB : Rd w B n ((List.range n).map fun i => .int .i64 (f i))) (hn : n ≤ 1000000) :
    Calls Try.prog 22 #[.slice A n c, .slice B n d] w fun e w' => e = .returned (.bool true) ∧ ∃ k, w' = w.drewN k := by
  go_enter Try.func22, Try.ntmps22
  go_wp2
  go_loopw [5] (fun i wr => ∃ k m : Nat, k ≤ n ∧ i = .int .i64 k ∧ wr = w.drewN m) (fun i _ => n - (intOf i).toNat)
  case atStart => exact ⟨0, 0, by omega, rfl, rfl⟩
  case round =>
    obtain ⟨k, m, hk, rfl, rfl⟩ := hrel
    by_cases hlt : k < n
    · obtain ⟨b, o, v, rfl, e1, d1⟩ := rd_v hA k hlt
      obtain ⟨b', o', v', rfl, e2, d2⟩ := rd_v hB k hlt
      have hl : (k : Int) < n := by omega
      rw [e1] at e2
      cases e2
      simp only [List.getElem?_map, List.getElem?_range hlt, Option.map_some, Option.some.injEq] at e1
      subst e1
      generalize f k = z at *
      clear hA hB
      go_wp2
      go_quiet (fail)
      go_wp2
      go_roundw
      case rel => exact ⟨k + 1, _, by omega, by go_num, rfl⟩
      case measure => simp [intOf]; omega
    · obtain rfl : k = n := by omega
      clear hA hB
      go_wp2
      go_ret
      exact ⟨rfl, _, rfl⟩

theorem sameBits (A B : Option Addr) (n c d : Nat) (f : Nat → Bool) (w : World) (hA : Rd w A n ((List.range n).map fun i => .bool (f i))) (hB : Rd w B n ((List.range n).map fun i => .bool (f i))) (hn : n ≤ 1000000) :
    Calls Try.prog 21 #[.slice A n c, .slice B n d] w fun e w' => e = .returned (.bool true) ∧ ∃ k, w' = w.drewN k := by
  go_enter Try.func21, Try.ntmps21
  go_wp2
  go_loopw [5] (fun i wr => ∃ k m : Nat, k ≤ n ∧ i = .int .i64 k ∧ wr = w.drewN m) (fun i _ => n - (intOf i).toNat)
  case atStart => exact ⟨0, 0, by omega, rfl, rfl⟩
  case round =>
    obtain ⟨k, m, hk, rfl, rfl⟩ := hrel
    by_cases hlt : k < n
    · obtain ⟨b, o, v, rfl, e1, d1⟩ := rd_v hA k hlt
      obtain ⟨b', o', v', rfl, e2, d2⟩ := rd_v hB k hlt
      have hl : (k : Int) < n := by omega
      rw [e1] at e2
      cases e2
      simp only [List.getElem?_map, List.getElem?_range hlt, Option.map_some, Option.some.injEq] at e1
      subst e1
      generalize f k = z at *
      clear hA hB
      go_wp2
      go_quiet (fail)
      go_wp2
      go_roundw
      case rel => exact ⟨k + 1, _, by omega, by go_num, rfl⟩
      case measure => simp [intOf]; omega
    · obtain rfl : k = n := by omega
      clear hA hB
      go_wp2
      go_ret
      exact ⟨rfl, _, rfl⟩
end Go.Proofs.Ytifegijnhlbedaa
