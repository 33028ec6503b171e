/- QR codes: FnRQJoins: lists of bytes that come in. -/
import Derived.Test.YtpffffhgmhpkiaaJnP
import Derived.Test.YtpffffhgmhpkiaaOpen
namespace Go.Proofs.Ytpffffhgmhpkiaa
open Go.RowKit
set_option linter.unusedVariables false
set_option linter.unusedSimpArgs false

set_option maxRecDepth 20000 in
/-- Lists of bytes that come in. -/
theorem lists_of {H : Type} {enc : TypeId × Value → H} {W : World} {A : Option Addr} {len cap fuel : Nat} {x : DataW H × List MemPlace} (h : DataW.trod enc Try.prog W 0 (fun _ => true) true fuel 23 (Value.slice A len cap).cells.toList = some x) :
    ∃ l : List (List Nat), RdL FB 1 W A len l ∧ len ≤ maxLen ∧ ∀ y ∈ l, (∀ c ∈ y, c < 256) ∧ y.length ≤ maxLen := by
  rcases DataW.trod_slice Try.underlying23 h with ⟨hcs, _⟩ | ⟨a, len', cap', elems, rest, n, _, hcs, _, hb, hl, hm, hlen, hel, _, _⟩
  · simp [Value.cells] at hcs
    obtain ⟨rfl, rfl, rfl⟩ := hcs
    exact ⟨[], ⟨rfl, fun h => absurd h (by omega)⟩, by simp [maxLen], fun y hy => by cases hy⟩
  · simp [Value.cells] at hcs
    obtain ⟨rfl, rfl, rfl⟩ := hcs
    have c22 : Try.prog.cellsOf 22 = 1 := by kernel_rfl
    have each : ∀ i, ∃ y : List Nat, i < len → ∃ R c, y.length ≤ c ∧ W.cell? (a.add (i * 1)) = some (.slice R y.length c) ∧ Rd W R y.length (u8s y) ∧ (∀ x ∈ y, x < 256) ∧ y.length ≤ maxLen := by
      intro i
      by_cases hi : i < len
      · have h1 := hel i hi
        rw [c22, List.getElem?_eq_getElem (show i < elems.length by omega), Option.bind_eq_some_iff] at h1
        obtain ⟨cs, hcs, hy⟩ := h1
        obtain ⟨hb2, hcl, hce⟩ := World.cells?_some hcs
        obtain ⟨u1, rfl⟩ : ∃ u1, cs = [u1] := by
          match cs, hcl with
          | [u1], _ => exact ⟨u1, rfl⟩
        obtain ⟨R, k, c, e2⟩ : ∃ R k c, u1 = .slice R k c := by
          rcases DataW.trod_slice Try.underlying22 hy with ⟨hq, _⟩ | ⟨a', l', c', _, _, _, _, hq, _⟩
          · simp at hq; exact ⟨_, _, _, hq⟩
          · simp at hq; exact ⟨_, _, _, hq⟩
        subst e2
        have h1' : DataW.trod enc Try.prog W 0 (fun _ => true) true n 22 (Value.slice R k c).cells.toList = some (elems[i]'(by omega)) := by simpa [Value.cells] using hy
        obtain ⟨zs, hsl, hwf⟩ := slIn_ints Try.underlying22 Try.underlying5 (by kernel_rfl) h1'
        have hzl : zs.length = k := by simpa using hsl.1
        have hu : zs.map (Value.int .u8) = u8s (zs.map Int.toNat) := by
          unfold u8s
          rw [List.map_map]
          apply List.map_congr_left
          intro z hz
          have := wf_u8 (hwf z hz)
          simp only [Function.comp]
          congr 1; omega
        refine ⟨zs.map Int.toNat, fun _ => ⟨R, c, by simpa [hzl] using hsl.2.1, ?_, ?_, ?_, ?_⟩⟩
        · have := hce 0 (by omega)
          rw [show (a.add (i * 1)).add 0 = a.add (i * 1) from by simp [Addr.add]] at this
          rw [this, List.length_map, hzl]; rfl
        · have := hsl.rd
          rw [hu] at this
          simpa [hzl] using this
        · intro x hx
          obtain ⟨z, hz, rfl⟩ := List.mem_map.1 hx
          have := wf_u8 (hwf z hz); omega
        · have h2 := hsl.2.1; have h3 := hsl.2.2.1
          simp [hzl]; omega
      · exact ⟨[], fun h => absurd h hi⟩
    obtain ⟨f, hf⟩ := Classical.skolem.1 each
    refine ⟨(List.range len).map f, ⟨by simp, fun hn => ?_⟩, by omega, fun y hy => ?_⟩
    · obtain ⟨b, off, spot⟩ := a
      obtain ⟨R0, c0, _, g0, _⟩ := hf 0 hn
      have hs : spot = none := by
        have := World.cell?_spot g0
        simpa [Addr.add] using this
      subst hs
      refine ⟨b, off, rfl, ?_, fun k y hy => ?_⟩
      · have h0' : W.cell? ⟨b, off, none⟩ = some (.slice R0 (f 0).length c0) := by simpa [Addr.add] using g0
        unfold World.cell? at h0'
        rcases Nat.lt_or_ge b W.heap.size with hl | hl
        · exact hl
        · simp only [Array.getElem?_eq_none hl] at h0'; cases h0'
      · have hk : k < len := by have := (List.getElem?_eq_some_iff.1 hy).1; simpa using this
        rw [List.getElem?_map, List.getElem?_range hk, Option.map_some, Option.some.injEq] at hy
        subst hy
        obtain ⟨R, c, g1, g2, g3, g4⟩ := hf k hk
        simp only [add_none] at g2
        refine ⟨[.slice R (f k).length c], rfl, fun j u hu => ?_, R, c, rfl, g1, g3⟩
        match j, hu with
        | 0, hu =>
          simp only [List.getElem?_cons_zero, Option.some.injEq] at hu
          rw [← hu, Nat.add_zero]
          exact g2
    · obtain ⟨i, hi, rfl⟩ := List.mem_map.1 hy
      obtain ⟨R, c, _, _, _, g5, g6⟩ := hf i (List.mem_range.1 hi)
      exact ⟨g5, g6⟩
end Go.Proofs.Ytpffffhgmhpkiaa
