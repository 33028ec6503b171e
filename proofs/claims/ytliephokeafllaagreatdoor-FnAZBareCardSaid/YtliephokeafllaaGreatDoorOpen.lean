/- What a slice that comes in as an argument gives to a walk. -/
import Derived.Test.YtliephokeafllaaGreatDoorMem
import Derived.ProofKit
import Derived.OpenShut
import Derived.Deep.Grids
namespace Go.Proofs.YtliephokeafllaaGreatDoor
open Go.ChangeShapes Go.WideShapes Go.RowKit

set_option linter.unusedVariables false
section
variable {H : Type} {enc : TypeId × Value → H} {P : Program} {w : World} {t e : TypeId} {fuel : Nat} {A : Option Addr} {len cap : Nat} {x : DataW H × List MemPlace}

theorem slIn_of {w : World} {A : Option Addr} {len cap : Nat} (a : Addr) (hA : A = some a) (hlc : len ≤ cap) (hm : cap ≤ maxLen)
    (l : List Value) (hl : l.length = len) (hc : ∀ i (hi : i < l.length), w.cell? (a.add i) = some l[i]) : SlIn w A len cap l := by
  refine ⟨hl, hlc, hm, fun hn => ?_⟩
  obtain ⟨b, off, spot⟩ := a
  have h0 := hc 0 (by omega)
  have hs : spot = none := by simpa [Addr.add] using World.cell?_spot h0
  subst hs
  have hb : b < w.heap.size := by
    have h0' : w.cell? ⟨b, off, none⟩ = some l[0] := by simpa [Addr.add] using h0
    unfold World.cell? at h0'
    rcases Nat.lt_or_ge b w.heap.size with hl | hl
    · exact hl
    · simp only [Array.getElem?_eq_none hl] at h0'; cases h0'
  refine ⟨b, off, hA, hb, fun k hk => ?_⟩
  have := hc k hk
  unfold Addr.add at this
  by_cases hk0 : k = 0
  · subst hk0; simpa using this
  · simpa [hk0] using this

theorem slIn_ints {held : Bool} {k : IntKind} (ht : P.underlying t = some (.slice e)) (he : P.underlying e = some (.int k)) (hc : P.cellsOf e = 1)
    (h : DataW.trod enc P w 0 (fun _ => true) held fuel t (Value.slice A len cap).cells.toList = some x) :
    ∃ zs : List Int, SlIn w A len cap (zs.map (Value.int k)) ∧ ∀ n ∈ zs, (Lit.int k n).wf = true := by
  rcases open_ints ht he hc h with ⟨hcs, _⟩ | ⟨a, l, c, zs, hcs, _, hl, hm, hz, _, hcell, hwz⟩
  · simp [Value.cells] at hcs
    obtain ⟨rfl, rfl, rfl⟩ := hcs
    exact ⟨[], ⟨rfl, Nat.le_refl _, by unfold maxLen; omega, fun h => absurd h (by omega)⟩, fun n hn => by cases hn⟩
  · simp [Value.cells] at hcs
    obtain ⟨rfl, rfl, rfl⟩ := hcs
    simp at hz
    refine ⟨zs.take len, slIn_of a rfl hl hm _ (by simp; omega) ?_, fun n hn => hwz n (List.mem_of_mem_take hn)⟩
    intro i hi
    simp at hi
    rw [hcell i (by omega)]
    simp [List.getD, List.getElem?_eq_getElem (show i < zs.length by omega)]

theorem slIn_bools {held : Bool} (ht : P.underlying t = some (.slice e)) (he : P.underlying e = some .bool) (hc : P.cellsOf e = 1)
    (h : DataW.trod enc P w 0 (fun _ => true) held fuel t (Value.slice A len cap).cells.toList = some x) :
    ∃ zs : List Bool, SlIn w A len cap (zs.map Value.bool) := by
  rcases Go.Deep.open_bools ht he hc h with ⟨hcs, _⟩ | ⟨a, l, c, B, hcs, _, hl, hm, _, hcell⟩
  · simp [Value.cells] at hcs
    obtain ⟨rfl, rfl, rfl⟩ := hcs
    exact ⟨[], ⟨rfl, Nat.le_refl _, by unfold maxLen; omega, fun h => absurd h (by omega)⟩⟩
  · simp [Value.cells] at hcs
    obtain ⟨rfl, rfl, rfl⟩ := hcs
    refine ⟨(List.range len).map B, slIn_of a rfl hl hm _ (by simp) ?_⟩
    intro i hi
    simp at hi
    rw [hcell i (by omega)]
    simp
/-- The number in a cell. -/
def cellNum : Option Value → Int
  | some (Value.int _ z) => z
  | _ => 0

/-- An array of integers by value. -/
theorem arr_ints {held : Bool} {k : IntKind} {n : Nat} {r : Reach} {b0 : Nat} {v : Value} {d : DataW H} {p : List MemPlace} (ht : P.underlying t = some (.array n e)) (he : P.underlying e = some (.int k)) (hc : P.cellsOf e = 1) (hC : P.cellsOf t = n)
    (hv : Value.okWide P w r b0 t v) (h : DataW.Trod enc P w 0 (fun _ => true) held t v d p) :
    ∃ zs : List Int, zs.length = n ∧ v = .agg (zs.map (Value.int k)).toArray ∧ ∀ x ∈ zs, (Lit.int k x).wf = true := by
  unfold Value.okWide at hv
  rw [ht] at hv
  obtain ⟨cs, rfl, hsz, _⟩ := hv
  obtain ⟨fuel, hf⟩ := h
  have hcells : (Value.agg cs).cells = cs := by simp [Value.cells]
  rw [hcells] at hf
  obtain ⟨xs, m, _, _, hl, hxl, hx⟩ := DataW.trod_array ht hf
  have each : ∀ i, i < n → ∃ z : Int, cs.toList[i]? = some (.int k z) ∧ (Lit.int k z).wf = true := by
    intro i hi
    have h1 := hx i hi
    rw [hc, Nat.mul_one, List.getElem?_eq_getElem (show i < xs.length by omega)] at h1
    have hlt : i < cs.toList.length := by rw [hl, hC]; exact hi
    have e1 : (cs.toList.drop i).take 1 = [cs.toList[i]] := by
      rw [List.drop_eq_getElem_cons hlt]; rfl
    rw [e1] at h1
    obtain ⟨z, hz, _, hw⟩ := DataW.trod_int he h1
    simp only [List.cons.injEq, and_true] at hz
    exact ⟨z, by rw [List.getElem?_eq_getElem hlt, hz], hw⟩
  refine ⟨(List.range n).map fun i => cellNum cs.toList[i]?, by simp, ?_, ?_⟩
  · have e2 : cs.toList = ((List.range n).map fun i => cellNum cs.toList[i]?).map (Value.int k) := by
      apply List.ext_getElem
      · rw [hl, hC]; simp
      · intro i h1 h2
        obtain ⟨z, hz, _⟩ := each i (by rw [hl, hC] at h1; exact h1)
        simp only [List.getElem_map, List.getElem_range, hz, cellNum]
        rw [List.getElem?_eq_getElem h1] at hz
        injection hz
    rw [← e2]
  · intro x hx
    obtain ⟨i, hi, rfl⟩ := List.mem_map.1 hx
    obtain ⟨z, hz, hw⟩ := each i (List.mem_range.1 hi)
    simp only [hz, cellNum]
    exact hw
end
end Go.Proofs.YtliephokeafllaaGreatDoor
