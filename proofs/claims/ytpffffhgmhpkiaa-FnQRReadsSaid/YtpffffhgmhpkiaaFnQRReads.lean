/- For every input FnQRReads returns true, does not panic, and leaves its arguments as they were. Conditions: none beyond the given row. -/
import Derived.Test.YtpffffhgmhpkiaaRows
import Derived.Test.YtpffffhgmhpkiaaLawRd
import Derived.Test.YtpffffhgmhpkiaaOpen
import Derived.WalkKit
import Derived.ProofKit
import Derived.OpenShut
import Derived.ShutString
import Derived.ChangeOld
import Derived.Below
namespace Go.Proofs.Ytpffffhgmhpkiaa
open Go.ChangeShapes Go.WideShapes Go.RowKit
set_option linter.unusedVariables false

section
variable {H : Type} {enc : TypeId × Value → H} {P : Program} {w : World} {t e q : TypeId}
theorem arr_arr_ints {held : Bool} {k : IntKind} {n m : Nat} {r : Reach} {b0 : Nat} {v : Value} {d : DataW H} {p : List MemPlace} (ht : P.underlying t = some (.array n e)) (he : P.underlying e = some (.array m q)) (hq : P.underlying q = some (.int k)) (hc : P.cellsOf q = 1) (hm : P.cellsOf e = m) (hC : P.cellsOf t = n * m)
    (hv : Value.okWide P w r b0 t v) (h : DataW.Trod enc P w 0 (fun _ => true) held t v d p) :
    ∃ zs : List Int, zs.length = n * m ∧ v = .agg (zs.map (Value.int k)).toArray ∧ ∀ x ∈ zs, (Lit.int k x).wf = true := by
  unfold Value.okWide at hv
  rw [ht] at hv
  obtain ⟨cs, rfl, hsz, _⟩ := hv
  obtain ⟨fuel, hf⟩ := h
  have hcells : (Value.agg cs).cells = cs := by simp [Value.cells]
  rw [hcells] at hf
  obtain ⟨xs, mm, _, _, hl, hxl, hx⟩ := DataW.trod_array ht hf
  have each2 : ∀ i, i < n → ∀ j, j < m → ∃ z : Int, cs.toList[i * m + j]? = some (.int k z) ∧ (Lit.int k z).wf = true := by
    intro i hi j hj
    have h1 := hx i hi
    rw [hm, List.getElem?_eq_getElem (show i < xs.length by omega)] at h1
    obtain ⟨ys, m2, _, _, hl2, hyl, hy⟩ := DataW.trod_array he h1
    have h2 := hy j hj
    rw [hc, Nat.mul_one, List.getElem?_eq_getElem (show j < ys.length by omega)] at h2
    obtain ⟨z, hz, _, hw⟩ := DataW.trod_int hq h2
    have h3 := congrArg (fun l => l[0]?) hz
    simp [List.getElem?_drop, hj] at h3
    exact ⟨z, by simpa using h3, hw⟩
  have each : ∀ i, i < n * m → ∃ z : Int, cs.toList[i]? = some (.int k z) ∧ (Lit.int k z).wf = true := by
    intro i hi
    have hm0 : 0 < m := by
      rcases Nat.eq_zero_or_pos m with h0 | h0
      · subst h0; simp at hi
      · exact h0
    have := each2 (i / m) (by rw [Nat.div_lt_iff_lt_mul hm0]; exact hi) (i % m) (Nat.mod_lt _ hm0)
    rwa [Nat.mul_comm, Nat.div_add_mod] at this
  refine ⟨(List.range (n * m)).map fun i => cellNum cs.toList[i]?, by simp, ?_, ?_⟩
  · have e2 : cs.toList = ((List.range (n * m)).map fun i => cellNum cs.toList[i]?).map (Value.int k) := by
      apply List.ext_getElem
      · rw [hl, hC]; simp
      · intro i h1 h2
        obtain ⟨z, hz, _⟩ := each i (by rw [hl, hC] at h1; exact h1)
        simp only [List.getElem_map, List.getElem_range, hz, cellNum]
        rw [List.getElem?_eq_getElem h1] at hz
        injection hz
    rw [← e2]
  · intro x hx
    obtain ⟨i, hi, rfl⟩ := List.mem_map.1 hx
    obtain ⟨z, hz, hw⟩ := each i (List.mem_range.1 hi)
    simp only [hz, cellNum]
    exact hw
end
end Go.Proofs.Ytpffffhgmhpkiaa
namespace Go.Proofs.Ytpffffhgmhpkiaa.fnQRReadsDone
open Go.ChangeShapes Go.WideShapes Go.ChangeAt Go.RowKit
open Go.ChangeMaps (open_string shut_string)
set_option linter.unusedVariables false

theorem own : ownKnob Try.prog.godebug = none := by kernel_rfl
theorem laidOut : laidOutB Try.prog = true := by kernel_rfl

set_option maxRecDepth 100000 in
theorem lifted (os : Os) (started : os.Started) (H : Type) (enc : TypeId × Value → H) :
    ReturnsInHanded {} Try.checked os 4 .any (Rows.fnQRReadsSpec.pre6 enc Try.prog Try.f4 Rows.fnQRReadsRow.domain false) (Rows.fnQRReadsSpec.post enc Try.prog Try.f4 false true false false) := by
  refine returnsInHanded_of_change (C := Try.checked) own started (by kernel_rfl) Try.func4
    (ChangeSpec.witness6 (enc := enc) (C := Try.checked) false ⟨#[], #[.slice none 0 0, .int .u8 0, .int .u8 0, .int .u8 0, .agg #[.int .u8 0, .int .u8 0, .int .u8 0, .int .u8 0, .int .u8 0, .int .u8 0, .int .u8 0, .int .u8 0, .int .u8 0, .int .u8 0, .int .u8 0, .int .u8 0]], []⟩ 8 (by kernel_rfl) (by kernel_rfl) (by kernel_rfl) (by kernel_rfl)) ?_
  intro W base args ds gs before hval0 hW hcnd _
  have hval : ∀ (j : Nat) t v, Try.f4.params[j]? = some t → args[j]? = some v → Value.okWide Try.prog W .any base t v := hval0
  have hW' := hW
  obtain ⟨p, q, hA0, hV, rfl, hfz, hnd⟩ := hW
  have hA : DataW.TrodAll enc Try.prog W 0 (fun _ => true) true Try.f4.params.toList args.toList ds p := hA0
  rw [Try.params4] at hA hval
  obtain ⟨v0, vs0, d0, ds0, p0, q0, hargs, rfl, rfl, h0, r0⟩ := trodAll_cons hA
  obtain ⟨v1, vs1, d1, ds1, p1, q1, rfl, rfl, rfl, h1, r1⟩ := trodAll_cons r0
  obtain ⟨v2, vs2, d2, ds2, p2, q2, rfl, rfl, rfl, h2, r2⟩ := trodAll_cons r1
  obtain ⟨v3, vs3, d3, ds3, p3, q3, rfl, rfl, rfl, h3, r3⟩ := trodAll_cons r2
  obtain ⟨v4, vs4, d4, ds4, p4, q4, rfl, rfl, rfl, h4, r4⟩ := trodAll_cons r3
  obtain ⟨rfl, rfl, rfl⟩ := trodAll_nil r4
  obtain rfl : args = #[v0, v1, v2, v3, v4] := by cases args; simp_all
  obtain ⟨rfl, rfl⟩ := trodVars_none hV
  have k0 := h0
  have lt0 : ∀ x ∈ p0, x.block < W.heap.size := by obtain ⟨m, hm⟩ := k0; exact DataW.trod_lt m _ _ _ hm
  have k1 := h1
  have lt1 : ∀ x ∈ p1, x.block < W.heap.size := by obtain ⟨m, hm⟩ := k1; exact DataW.trod_lt m _ _ _ hm
  have k2 := h2
  have lt2 : ∀ x ∈ p2, x.block < W.heap.size := by obtain ⟨m, hm⟩ := k2; exact DataW.trod_lt m _ _ _ hm
  have k3 := h3
  have lt3 : ∀ x ∈ p3, x.block < W.heap.size := by obtain ⟨m, hm⟩ := k3; exact DataW.trod_lt m _ _ _ hm
  have k4 := h4
  have lt4 : ∀ x ∈ p4, x.block < W.heap.size := by obtain ⟨m, hm⟩ := k4; exact DataW.trod_lt m _ _ _ hm
  obtain ⟨A0, len0, cap0, rfl⟩ := okWide_slice Try.underlying22 (hval 0 22 v0 rfl rfl)
  obtain ⟨z0, w0, wf0⟩ : ∃ zs : List Int, SlIn W A0 len0 cap0 (zs.map (Value.int .u8)) ∧ ∀ n ∈ zs, (Lit.int .u8 n).wf = true := by
    obtain ⟨fuel, hf⟩ := h0; exact slIn_ints Try.underlying22 Try.underlying5 (by kernel_rfl) hf
  obtain ⟨a1, rfl, rfl, rfl, w1⟩ := open_int Try.underlying5 (hval 1 5 v1 rfl rfl) h1
  obtain ⟨a2, rfl, rfl, rfl, w2⟩ := open_int Try.underlying5 (hval 2 5 v2 rfl rfl) h2
  obtain ⟨a3, rfl, rfl, rfl, w3⟩ := open_int Try.underlying5 (hval 3 5 v3 rfl rfl) h3
  obtain ⟨z4, hl4, rfl, wf4⟩ := arr_arr_ints Try.underlying37 Try.underlying36 Try.underlying5 (by kernel_rfl) (by kernel_rfl) (by kernel_rfl) (hval 4 37 v4 rfl rfl) h4
  clear hA0 hval0
  refine (FnQRReads_walk W A0 len0 cap0 z0 w0 wf0 a1 w1 a2 w2 a3 w3 z4 hl4 wf4).mono fun e W' ⟨he, bel⟩ => ?_
  subst he
  exact ⟨_, rfl, _, _, _, [], _, [], hW', trodAll_mk1 (shut_bool Try.underlying4 _), (trodAll_cons_mk (Below.trod laidOut (by kernel_rfl) (of_decide_eq_true (by kernel_rfl)) k0 bel lt0) (trodAll_cons_mk (Below.trod laidOut (by kernel_rfl) (of_decide_eq_true (by kernel_rfl)) k1 bel lt1) (trodAll_cons_mk (Below.trod laidOut (by kernel_rfl) (of_decide_eq_true (by kernel_rfl)) k2 bel lt2) (trodAll_cons_mk (Below.trod laidOut (by kernel_rfl) (of_decide_eq_true (by kernel_rfl)) k3 bel lt3) (trodAll_cons_mk (Below.trod laidOut (by kernel_rfl) (of_decide_eq_true (by kernel_rfl)) k4 bel lt4) trodAll_mk0))))), rfl, bel.frame _, fun h => by cases h⟩

theorem over : Rows.fnQRReadsRow.holds Try.pinned (OpenSpec.ofChange Rows.fnQRReadsSpec) :=
  OpenClaim.holds_of_wide 4 Try.f4 rfl rfl rfl rfl rfl rfl rfl ⟨rfl, rfl, rfl, rfl, rfl⟩ rfl rfl rfl rfl rfl (by kernel_rfl) Try.func4 (by kernel_rfl)
    (of_decide_eq_true (by kernel_rfl)) (by unfold Func.isWrapper; first | (rw [if_pos (by decide +kernel)]; kernel_rfl) | (rw [if_neg (by decide +kernel)]; exact ⟨rfl, rfl⟩))
    (fun os started H enc _ => lifted os started H enc)

/-- The statement: for every input FnQRReads returns true. -/
theorem proved : Rows.FnQRReadsSaid := over
#print axioms proved
end Go.Proofs.Ytpffffhgmhpkiaa.fnQRReadsDone
