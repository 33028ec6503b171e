/- gozxing.BitMatrix: a new one, a bit that is set, turned, read. -/
import Derived.Test.YtmaghlckgfihcaaDoorBitL
import Derived.Test.YtmaghlckgfihcaaDoorProg
import Derived.BigQuiet
import Derived.Deep.QuietTactic
import Derived.KernelRfl
import Derived.Deep.RegionHeld3
import Derived.Deep.LoopGhost
namespace Go.Proofs.YtmaghlckgfihcaaDoor
open Go.RowKit
set_option linter.unusedVariables false

theorem infoU : (Tryd.prog.info? 35).map (fun i => (i.zero, i.size, i.bytes)) = some (some (.int .u32 0), 1, 4) := by kernel_rfl
theorem info_of {t : TypeId} {z : Value} {b : Nat} (h : (Tryd.prog.info? t).map (fun i => (i.zero, i.size, i.bytes)) = some (some z, 1, b)) : ∃ i, Tryd.prog.info? t = some i ∧ i.zero = some z ∧ i.size = 1 ∧ i.bytes = b := by
  cases hi : Tryd.prog.info? t with
  | none => rw [hi] at h; simp at h
  | some i =>
    rw [hi] at h
    simp only [Option.map_some, Option.some.injEq, Prod.mk.injEq] at h
    exact ⟨i, rfl, h.1, h.2.1, h.2.2⟩

theorem pow_mod {m : Nat} (h : 2 ^ m < 4294967296) : ((2 : Int) ^ m % 4294967296) = ((2 ^ m : Nat) : Int) := by
  have e : ((2 : Int) ^ m) = ((2 ^ m : Nat) : Int) := by rw [Int.natCast_pow]; rfl
  rw [e]
  generalize 2 ^ m = n at *
  omega

/-- A matrix in new memory is handed back, without an error. -/
def MatOut (W H rs : Nat) (B : Nat → Nat → Bool) (w : World) (e : Ending) (w' : World) : Prop :=
  ∃ q g ws, e = .returned (.tuple #[.pointer (some ⟨q, 0, none⟩), .nilIface]) ∧ w.heap.size ≤ g ∧ IsMat w' q g 72 42 W H rs ws B ∧ Below w.heap.size w w'

section
variable {w : World} {q g W H rs : Nat} {ws : List Nat} {B : Nat → Nat → Bool}
theorem mat_facts (h : IsMat w q g 72 42 W H rs ws B) : w.cell? ⟨q, 0, none⟩ = some (.int .i64 W) ∧ w.cell? ⟨q, 1, none⟩ = some (.int .i64 H) ∧ w.cell? ⟨q, 2, none⟩ = some (.int .i64 rs) ∧ w.cell? ⟨q, 3, none⟩ = some (.slice (some ⟨g, 0, none⟩) (rs * H) (rs * H)) :=
  ⟨h.st.cell? 0, h.st.cell? 1, h.st.cell? 2, h.st.cell? 3⟩
end

end Go.Proofs.YtmaghlckgfihcaaDoor
