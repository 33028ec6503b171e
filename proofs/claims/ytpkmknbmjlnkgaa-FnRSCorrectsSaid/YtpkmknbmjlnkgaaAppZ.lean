/- A law: append of so many zeros to a slice that the call owns. -/
import Derived.Test.YtpkmknbmjlnkgaaMem
import Derived.IntWalk
namespace Go.Proofs.Ytpkmknbmjlnkgaa
open Go.RowKit
set_option linter.unusedVariables false
set_option linter.unusedSimpArgs false

theorem zeroCells_toList (z : Value) (n : Nat) : (Builtin.zeroCells #[z] n).toList = List.replicate n z := by
  apply List.ext_getElem
  · simp [Builtin.zeroCells]
  · intro i h1 h2
    simp [Builtin.zeroCells, Nat.mod_one]
theorem zeroCells_arr (z : Value) (n : Nat) : Builtin.zeroCells #[z] n = (List.replicate n z).toArray := by
  apply Array.ext'
  rw [zeroCells_toList]

section
variable {P : Program} (w : World)
theorem wrap_nat (m : Nat) (hm2 : m ≤ 1000000000) : IntKind.i64.wrap (m : Int) = m := IntWalk.i64_in _ ⟨by omega, by omega⟩
theorem small_bytes (m b : Nat) (hm : m * b ≤ 281474976710656) : ¬ (281474976710656 < (m : Int) * (b : Int)) := by
  have : ((m * b : Nat) : Int) ≤ 281474976710656 := by omega
  rw [Int.natCast_mul] at this
  omega
theorem wrap_0 : IntKind.i64.wrap 0 = 0 := IntWalk.i64_in _ ⟨by omega, by omega⟩

theorem run_appz_room (t u ty e : TypeId) (i : TypeInfo) (z : Value) (ku : IntKind) (ht : P.underlying t = some (.slice e)) (hu : P.underlying u = some (.int ku)) (hi : P.info? e = some i) (hz : i.zero = some z) (hzc : z.cells = #[z])
    (hsize : i.size = 1) (hz1 : z.oneCell' = true) (g sLen sCap : Nat) (cur : Array Value) (hg : w.heap[g]? = some (.cells cur e (0, 0))) (m : Nat) (hm : m * i.bytes ≤ 281474976710656) (hm2 : m ≤ 1000000000)
    (hroom : sLen + m ≤ sCap) (hfit : sLen + m ≤ cur.size) :
    (Builtin.append_ #[t, u] ty #[.slice (some ⟨g, 0, none⟩) sLen sCap, .int .i64 m]).run P w =
      .ok (.slice (some ⟨g, 0, none⟩) (sLen + m) sCap) (w.setRow g (cur.toList.take sLen ++ List.replicate m z ++ cur.toList.drop (sLen + m)).toArray) := by
  have hw := wrap_nat m hm2
  have h1 : ∀ u ∈ List.replicate m z, u.oneCell' = true := by
    intro u hu
    rw [(List.mem_replicate.1 hu).2]; exact hz1
  have hst := run_storeCells_at P g sLen e (List.replicate m z) 0 cur w hg (by simpa using hfit) h1
  simp only [Nat.add_zero, List.length_replicate] at hst
  have hb := small_bytes m i.bytes hm
  rcases Nat.eq_zero_or_pos m with h0 | h0
  · subst h0
    have hro : sLen ≤ sCap := by omega
    simp [Builtin.append_, run_underlying ht, run_underlying hu, sizeOf, typeInfo, zeroValue, asInt, asIntOf, hi, hz, hsize, wrap_0, Addr.add_lit, hro] at hst ⊢
    rw [hst]
    rfl
  · have hm0 : m ≠ 0 := by omega
    simp [Builtin.append_, run_underlying ht, run_underlying hu, sizeOf, typeInfo, zeroValue, asInt, asIntOf, hi, hz, hsize, hw, hb, hroom, hm0, Addr.add_lit, hzc, zeroCells_toList, hst]
    intro h; omega

theorem run_appz_nil (t u ty e : TypeId) (i : TypeInfo) (z : Value) (ku : IntKind) (ht : P.underlying t = some (.slice e)) (hu : P.underlying u = some (.int ku)) (hi : P.info? e = some i) (hz : i.zero = some z) (hzc : z.cells = #[z])
    (hsize : i.size = 1) (m : Nat) (h0 : 0 < m) (hm : m * i.bytes ≤ 140737488355328) (hm2 : m ≤ 1000000000) :
    (Builtin.append_ #[t, u] ty #[.slice none 0 0, .int .i64 m]).run P w =
      .ok (.slice (some ⟨w.heap.size, 0, none⟩) m (grownCap w m 0 e)) (w.drew.alloc (.cells ((List.replicate m z).toArray ++ Builtin.zeroCells z.cells (grownCap w m 0 e - m)) e)) := by
  have hw := wrap_nat m hm2
  have hb := small_bytes m i.bytes (by omega)
  have hm0 : m ≠ 0 := by omega
  have h63' : ¬ (9223372036854775807 < (m : Int)) := by omega
  have h48' : ¬ (281474976710656 < Builtin.nextslicecap m 0 * i.bytes) := by rw [nextslicecap_zero h0]; omega
  simp [Builtin.append_, run_underlying ht, run_underlying hu, sizeOf, typeInfo, zeroValue, asInt, asIntOf, hi, hz, hsize, hw, hb, hm0, hzc, zeroCells_arr, h63', h48', Question.forced, run_firstCells_none, newRow, grownCap]
  intro h; omega

theorem run_appz_grow (t u ty e : TypeId) (i : TypeInfo) (z : Value) (ku : IntKind) (ht : P.underlying t = some (.slice e)) (hu : P.underlying u = some (.int ku)) (hi : P.info? e = some i) (hz : i.zero = some z) (hzc : z.cells = #[z])
    (hsize : i.size = 1) (b : Addr) (sLen sCap : Nat) (olds : List Value) (hlo : olds.length = sLen) (holds : ∀ j v, olds[j]? = some v → w.cell? (b.add j) = some v)
    (m : Nat) (h0 : 0 < m) (hm : (sLen + m) * i.bytes ≤ 140737488355328) (hm2 : sLen + m ≤ 1000000000) (hgr : sCap < sLen + m) :
    (Builtin.append_ #[t, u] ty #[.slice (some b) sLen sCap, .int .i64 m]).run P w =
      .ok (.slice (some ⟨w.heap.size, 0, none⟩) (sLen + m) (grownCap w (sLen + m) sCap e)) (w.drew.alloc (.cells (olds.toArray ++ (List.replicate m z).toArray ++ Builtin.zeroCells z.cells (grownCap w (sLen + m) sCap e - (sLen + m))) e)) := by
  have hw := wrap_nat m (by omega)
  have hb := small_bytes m i.bytes (Nat.le_trans (Nat.mul_le_mul_right _ (show m ≤ sLen + m by omega)) (by omega))
  have hm0 : m ≠ 0 := by omega
  have hn : ¬ (sLen + m ≤ sCap) := by omega
  have h63' : ¬ (9223372036854775807 < ((sLen : Int) + (m : Int))) := by omega
  have h48' : ¬ (281474976710656 < Builtin.nextslicecap (sLen + m) sCap * i.bytes) := by have := growslice_fits hgr hm; omega
  have hfo := run_firstCells_some (P := P) w.drew 1 sLen b sLen sCap olds (by omega) (by simpa using holds)
  simp [Builtin.append_, run_underlying ht, run_underlying hu, sizeOf, typeInfo, zeroValue, asInt, asIntOf, hi, hz, hsize, hw, hb, hn, hm0, hzc, zeroCells_arr, h63', h48', Question.forced, hfo, newRow, grownCap]
  intro h; omega

/-- append of m zeros onto a slice that the call owns (or nil), of elements of one cell. -/
theorem run_appz (B : Nat) (t u ty e : TypeId) (i : TypeInfo) (z : Value) (ku : IntKind) (bytes : Nat) (ht : P.underlying t = some (.slice e)) (hu : P.underlying u = some (.int ku)) (hi : P.info? e = some i) (hz : i.zero = some z)
    (hsize : i.size = 1) (hby : i.bytes = bytes) (hzc : z.cells = #[z]) (hz1 : z.oneCell' = true) (v : Value) (xs : List Value) (hown : Own w B e v xs)
    (m : Nat) (h63 : xs.length + m ≤ 1000000000) (hbytes : (xs.length + m) * bytes ≤ 140737488355328) (hB : B ≤ w.heap.size) :
    ∃ v' w', (Builtin.append_ #[t, u] ty #[v, .int .i64 m]).run P w = .ok v' w' ∧ Own w' B e v' (xs ++ List.replicate m z) ∧ w.grownBy w' v.ownBlock ∧
      (v'.ownBlock = v.ownBlock ∨ v'.ownBlock = some w.heap.size) := by
  subst hby
  have hlen : (xs ++ List.replicate m z).length = xs.length + m := by simp
  have grown : ∀ (old : Nat), old < xs.length + m → ∀ (row : Option Nat),
      (w.drew.alloc (.cells (xs.toArray ++ (List.replicate m z).toArray ++ Builtin.zeroCells z.cells (grownCap w (xs.length + m) old e - (xs.length + m))) e)).ownsRow B e 1
        (.slice (some ⟨w.heap.size, 0, none⟩) (xs.length + m) (grownCap w (xs.length + m) old e)) (xs.length + m) (xs ++ List.replicate m z) ∧
      w.grownBy (w.drew.alloc (.cells (xs.toArray ++ (List.replicate m z).toArray ++ Builtin.zeroCells z.cells (grownCap w (xs.length + m) old e - (xs.length + m))) e)) row := by
    intro old ho row
    have hge := grownCap_ge w (xs.length + m) old e
    have hcm : grownCap w (xs.length + m) old e ≤ maxLen := grownCap_le_maxLen w (xs.length + m) old e (by simp only [maxLen]; omega)
    refine ⟨⟨by simp, .inr ⟨w.heap.size, _, _, rfl, hB, heap_alloc_new w.drew _, hge, hcm, ?_, ?_⟩⟩, ⟨rfl, rfl, rfl, by simp, fun k hk _ => Below.heap_alloc w.drew _ k hk⟩⟩
    · simp [size_zeroCells, hzc]; omega
    · simp only [Array.toList_append, List.append_assoc]
      rw [← List.append_assoc, Nat.mul_one, ← hlen]
      exact List.take_left
  unfold Own
  rw [hlen]
  rcases hown.2 with ⟨rfl, hx⟩ | ⟨g, cap, cur, rfl, hbg, hg, hnc, hcm, hcs, htake⟩
  · have hx : xs = [] := List.eq_nil_of_length_eq_zero hx
    subst hx
    by_cases hm : m = 0
    · subst hm
      refine ⟨.slice none 0 0, w, ?_, World.ownsRow_nil w B e 1, ⟨rfl, rfl, rfl, Nat.le_refl _, fun _ _ _ => rfl⟩, Or.inl rfl⟩
      simp [Builtin.append_, run_underlying ht, run_underlying hu, sizeOf, typeInfo, hi, wrap_0, asInt, asIntOf]
    · have hr := run_appz_nil (P := P) w t u ty e i z ku ht hu hi hz hzc hsize m (by omega) (by simpa using hbytes) (by simpa using h63)
      have hgr := grown 0 (by simp; omega) (Value.ownBlock (.slice none 0 0))
      simp only [List.length_nil, Nat.zero_add, List.nil_append, Array.empty_append] at hgr ⊢
      exact ⟨_, _, hr, hgr.1, hgr.2, Or.inr rfl⟩
  · by_cases hroom : xs.length + m ≤ cap
    · have hr := run_appz_room (P := P) w t u ty e i z ku ht hu hi hz hzc hsize hz1 g xs.length cap cur hg m (Nat.le_trans (Nat.mul_le_mul_right _ (show m ≤ xs.length + m by omega)) (by omega)) (by omega) hroom (by omega)
      refine ⟨_, _, hr, ⟨by simp, .inr ⟨g, cap, _, rfl, hbg, setRow_heap w g cur _ e _ hg, hroom, hcm, ?_, ?_⟩⟩, ⟨rfl, rfl, rfl, by simp, fun k _ hk => setRow_other w g k _ (fun e => hk (by simp [Value.ownBlock, e]))⟩, Or.inl rfl⟩
      · simp; omega
      · rw [Nat.mul_one] at htake
        rw [htake, Nat.mul_one, ← hlen]
        exact List.take_left
    · have holds : ∀ j u, xs[j]? = some u → w.cell? ((⟨g, 0, none⟩ : Addr).add j) = some u := hown.cells (g := g) rfl
      have hr := run_appz_grow (P := P) w t u ty e i z ku ht hu hi hz hzc hsize ⟨g, 0, none⟩ xs.length cap xs rfl holds m (by omega) hbytes h63 (by omega)
      have hgr := grown cap (by omega) (Value.ownBlock (.slice (some ⟨g, 0, none⟩) xs.length cap))
      exact ⟨_, _, hr, hgr.1, hgr.2, Or.inr rfl⟩
end

theorem wpList_appz {P : Program} {ops : Array Oper} {o : Oper} {a : Act} (w : World) {rest : List Oper} {Q : Exit → Act → World → Prop} (hgd : o.guard = none) (s x : Operand) (t u : TypeId)
    (ho : o.op = .call { callee := .builtin .append, args := #[s, x], argTypes := #[t, u] })
    (B : Nat) (e : TypeId) (i : TypeInfo) (z : Value) (ku : IntKind) (bytes : Nat) (ht : P.underlying t = some (.slice e)) (hu : P.underlying u = some (.int ku)) (hi : P.info? e = some i) (hz : i.zero = some z)
    (hsize : i.size = 1) (hby : i.bytes = bytes) (hzc : z.cells = #[z]) (hz1 : z.oneCell' = true) (v : Value) (xs : List Value) (hs : a.eval s = v) (hown : Own w B e v xs)
    (m : Nat) (hx : a.eval x = .int .i64 m)
    (h63 : xs.length + m ≤ 1000000000) (hbytes : (xs.length + m) * bytes ≤ 140737488355328) (hB : B ≤ w.heap.size)
    (h : ∀ v' w', Own w' B e v' (xs ++ List.replicate m z) → w.grownBy w' v.ownBlock → (v'.ownBlock = v.ownBlock ∨ v'.ownBlock = some w.heap.size) → wpList P ops Q rest (a.put o.dst v') w') : wpList P ops Q (o :: rest) a w :=
  wpList_plain hgd fun _ hK => by
    obtain ⟨v', w', hrun, h2, h3, h4⟩ := run_appz (P := P) w B t u o.type e i z ku bytes ht hu hi hz hsize hby hzc hz1 v xs hown m h63 hbytes hB
    unfold Oper.wp execOp
    simp only [ho, resolve, invoke, builtin, Sem.run_bind, Sem.run_pure, Result.andThen_ok, List.map_toArray, List.map_cons, List.map_nil, hs, hx, hrun]
    exact hK _ _ (h v' w' h2 h3 h4)
end Go.Proofs.Ytpkmknbmjlnkgaa
