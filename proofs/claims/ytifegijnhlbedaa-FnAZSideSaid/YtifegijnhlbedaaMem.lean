/- Words for memory that the walks of this seat share: a block that is known whole, and how it is kept. -/
import Derived.WalkKit
import Derived.WalkSpells
import Derived.WalkLawsBesides
import Derived.Laws.Rows
import Derived.Deep.Draws
namespace Go.Proofs.Ytifegijnhlbedaa
open Go.RowKit

/-- A fact laid behind a name, so that the walk does not rewrite by it. -/
theorem hid {p : Prop} (h : p) : Hid p := h

theorem wf_u8 {n : Int} (h : (Lit.int .u8 n).wf = true) : 0 ≤ n ∧ n ≤ 255 := by
  simp [Lit.wf, IntKind.min, IntKind.max, IntKind.signed, IntKind.bits] at h; omega
theorem wf_i8 {n : Int} (h : (Lit.int .i8 n).wf = true) : -128 ≤ n ∧ n ≤ 127 := by
  simp [Lit.wf, IntKind.min, IntKind.max, IntKind.signed, IntKind.bits] at h; omega
theorem wf_u16 {n : Int} (h : (Lit.int .u16 n).wf = true) : 0 ≤ n ∧ n ≤ 65535 := by
  simp [Lit.wf, IntKind.min, IntKind.max, IntKind.signed, IntKind.bits] at h; omega
theorem wf_u32 {n : Int} (h : (Lit.int .u32 n).wf = true) : 0 ≤ n ∧ n ≤ 4294967295 := by
  simp [Lit.wf, IntKind.min, IntKind.max, IntKind.signed, IntKind.bits] at h; omega
theorem wf_i64 {n : Int} (h : (Lit.int .i64 n).wf = true) : -9223372036854775808 ≤ n ∧ n ≤ 9223372036854775807 := by
  simp [Lit.wf, IntKind.min, IntKind.max, IntKind.signed, IntKind.bits] at h; omega

/-- Block g is the cells l of element type t, none of them frozen. -/
def Arr (w : World) (g : Nat) (t : TypeId) (l : List Value) : Prop := w.heap[g]? = some (.cells l.toArray t (0, 0))

section
variable {w w' : World} {g : Nat} {t : TypeId} {l : List Value}
theorem Arr.lt (h : Arr w g t l) : g < w.heap.size := by
  unfold Arr at h
  rcases Nat.lt_or_ge g w.heap.size with hl | hl
  · exact hl
  · rw [Array.getElem?_eq_none hl] at h; cases h
theorem Arr.cell? (h : Arr w g t l) (k : Nat) : w.cell? ⟨g, k, none⟩ = l[k]? := by
  unfold Arr at h
  simp [World.cell?, h]
theorem Arr.cell (h : Arr w g t l) (k : Nat) (hk : k < l.length) : w.cell? ⟨g, k, none⟩ = some l[k] := by
  rw [h.cell? k, List.getElem?_eq_getElem hk]
theorem Arr.has (h : Arr w g t l) (k : Nat) (hk : k < l.length) : ∃ v, w.cell? ⟨g, k, none⟩ = some v := ⟨_, h.cell k hk⟩
theorem Arr.frozen (h : Arr w g t l) (k : Nat) : w.frozen? ⟨g, k, none⟩ = false := by
  unfold Arr at h
  simp [World.frozen?, h]
theorem Arr.set (h : Arr w g t l) (k : Nat) (v : Value) : Arr (w.setCell ⟨g, k, none⟩ v) g t (l.set k v) := by
  unfold Arr at h ⊢
  rw [heap_setCell_same w g k _ t v h]
  simp
theorem Arr.far (h : Arr w g t l) {p : Addr} (hp : g ≠ p.block) (v : Value) : Arr (w.setCell p v) g t l :=
  (Below.heap_setCell w p v g hp).trans h
theorem Arr.alloc (h : Arr w g t l) (o : Obj) : Arr (w.alloc o) g t l := (Below.heap_alloc w o g h.lt).trans h
theorem Arr.below {B : Nat} (h : Arr w g t l) (hb : Below B w w') (hg : g < B) : Arr w' g t l := (hb.block g hg).trans h
theorem Arr.grown {row : Option Nat} (h : Arr w g t l) (hb : w.grownBy w' row) (hg : some g ≠ row) : Arr w' g t l := (hb.block g h.lt hg).trans h
theorem Arr.drew (h : Arr w g t l) : Arr w.drew g t l := h
theorem Arr.drewN (h : Arr w g t l) (n : Nat) : Arr (w.drewN n) g t l := h
theorem Arr.of_new (w : World) (t : TypeId) (cs : Array Value) : Arr (w.alloc (.cells cs t)) w.heap.size t cs.toList := by
  unfold Arr
  rw [Array.toArray_toList]
  exact heap_alloc_new w _
theorem Arr.made (w : World) (t : TypeId) (v : Value) (n : Nat) : Arr (w.alloc (.cells (madeCells #[v] n) t)) w.heap.size t (List.replicate n v) := by
  have h := Arr.of_new w t (madeCells #[v] n)
  have e : (madeCells #[v] n).toList = List.replicate n v := by
    apply List.ext_getElem
    · simp [madeCells]
    · intro i h1 h2
      simp [madeCells, Nat.mod_one]
  rwa [e] at h
end

/-- A slice that came in, of n elements of one cell each: what its cells hold. -/
def SlIn (w : World) (A : Option Addr) (n cap : Nat) (l : List Value) : Prop :=
  l.length = n ∧ n ≤ cap ∧ cap ≤ maxLen ∧ (0 < n → ∃ b o, A = Option.some ⟨b, o, none⟩ ∧ b < w.heap.size ∧ ∀ k (h : k < l.length), w.cell? ⟨b, o + k, none⟩ = Option.some l[k])
end Go.Proofs.Ytifegijnhlbedaa
