/- QR codes: a slice of bytes, from a place on. -/
import Derived.Test.YtpffffhgmhpkiaaSpI
import Derived.Test.YtpffffhgmhpkiaaSpJ
namespace Go.Proofs.Ytpffffhgmhpkiaa
open Go.RowKit
set_option linter.unusedVariables false
set_option linter.unusedSimpArgs false
theorem add_none (b o j : Nat) : (⟨b, o, none⟩ : Addr).add j = ⟨b, o + j, none⟩ := by
  unfold Addr.add
  by_cases h : j = 0
  · subst h; simp
  · simp [h]
theorem size5 : ∀ W, (sizeOf (Try.prog.elem 22)).run Try.prog W = .ok 1 W := fun W => by
  have e : Try.prog.elem 22 = 5 := by kernel_rfl
  obtain ⟨i5, gi, gz0, gz1, gz2⟩ := info_of info5
  rw [e]
  simp [sizeOf, typeInfo, gi, gz1]
theorem slice_from (b o k c j : Nat) (hj : j ≤ k) (hc : k ≤ c) : ∃ A3, (∀ W, (Instr.sliceAt 22 (.slice (some ⟨b, o, none⟩) k c) (some (.int .i64 j)) none none).run Try.prog W = .ok (.slice A3 (k - j) (c - j)) W) ∧ (∀ a, A3 = some a → a.block = b) ∧
    (∀ W s, Rd W (some ⟨b, o, none⟩) k (u8s s) → Rd W A3 (k - j) (u8s (s.drop j))) := by
  refine ⟨if c = j then some ⟨b, o, none⟩ else some ⟨b, o + j, none⟩, fun W => ?_, fun a ha => ?_, fun W s hR => ?_⟩
  · have ht : Try.prog.underlying 22 = some (.slice (Try.prog.elem 22)) := by kernel_rfl
    rw [run_sliceAt_slice (h := ht), run_slice_l (ht := ht) (h0 := by omega) (h1 := by omega), size5]
    simp only [Result.andThen, sliced, Int.toNat_natCast, Nat.mul_one, Option.map_some, add_none]
  · by_cases h : c = j
    · rw [if_pos h] at ha; injection ha with ha; rw [← ha]
    · rw [if_neg h] at ha; injection ha with ha; rw [← ha]
  · have hl : s.length = k := by have := hR.1; rwa [u8s_len] at this
    refine ⟨by rw [u8s_len, List.length_drop, hl], fun h0 => ?_⟩
    obtain ⟨b', o', e, hb, hcc⟩ := hR.2 (by omega)
    injection e with e; injection e with e1 e2
    subst e1 e2
    rw [if_neg (by omega)]
    refine ⟨b, o + j, rfl, hb, fun i hi => ?_⟩
    rw [u8s_len, List.length_drop] at hi
    rw [Nat.add_assoc, hcc (j + i) (by rw [u8s_len]; omega)]
    simp [u8s]
end Go.Proofs.Ytpffffhgmhpkiaa
