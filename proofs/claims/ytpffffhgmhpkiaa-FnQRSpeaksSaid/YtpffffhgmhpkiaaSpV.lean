/- QR codes: FnQRSpeaks: the numbers of a stream fit their bits; segments that come in, opened. -/
import Derived.Test.YtpffffhgmhpkiaaSpU
import Derived.Test.YtpffffhgmhpkiaaSpP
import Derived.Test.YtpffffhgmhpkiaaSpR
import Derived.ChangeSame
namespace Go.Proofs.Ytpffffhgmhpkiaa
open Go.RowKit Go.ChangeShapes Go.WideShapes
set_option linter.unusedVariables false
set_option linter.unusedSimpArgs false

def FitsD (l : List (Nat × Nat)) : Prop := ∀ x ∈ l, x.1 < 2 ^ x.2
theorem FitsD.cons {n k : Nat} {l : List (Nat × Nat)} (h : n < 2 ^ k) (hl : FitsD l) : FitsD ((n, k) :: l) := fun x hx => by
  rcases List.mem_cons.1 hx with rfl | hx
  · exact h
  · exact hl x hx
theorem numD_fits : ∀ s : List Nat, Digs s → FitsD (numD s)
  | [], _ => fun x hx => by simp [numD] at hx
  | [a], h => by
    have h1 := h a (by simp)
    exact FitsD.cons (by omega) (fun x hx => by simp at hx)
  | [a, b], h => by
    have h1 := h a (by simp)
    have h2 := h b (by simp)
    exact FitsD.cons (by omega) (fun x hx => by simp at hx)
  | a :: b :: c :: t, h => by
    have h1 := h a (by simp)
    have h2 := h b (by simp)
    have h3 := h c (by simp)
    exact FitsD.cons (by omega) (numD_fits t (fun x hx => h x (by simp [hx])))
theorem alphD_fits : ∀ s : List Nat, Alphs s → FitsD (alphD s)
  | [], _ => fun x hx => by simp [alphD] at hx
  | [a], h => by
    have h1 := (h a (by simp)).2
    exact FitsD.cons (by omega) (fun x hx => by simp at hx)
  | a :: b :: t, h => by
    have h1 := (h a (by simp)).2
    have h2 := (h b (by simp)).2
    exact FitsD.cons (by omega) (alphD_fits t (fun x hx => h x (by simp [hx])))
theorem byteD_fits (s : List Nat) (h : Lts s) : FitsD (byteD s) := fun x hx => by
  obtain ⟨c, hc, rfl⟩ := List.mem_map.1 hx
  exact h c hc
theorem segD_fits (v : Nat) (x : Nat × List Nat) (h : SegOk x) : FitsD (segD v x) := by
  have hm : x.1 ≤ 4 := by have := h.mode; unfold IsMode at this; omega
  have hl : x.2.length < 2 ^ cntB x.1 v := Nat.lt_of_le_of_lt h.len (Nat.lt_of_lt_of_le (by decide) (Nat.pow_le_pow_right (n := 2) (by decide) (cnt_ge x.1 v)))
  refine FitsD.cons (by omega) (FitsD.cons hl ?_)
  unfold dataD
  by_cases h1 : x.1 = 1
  · rw [if_pos h1]; exact numD_fits _ (h.dig h1)
  · rw [if_neg h1]
    by_cases h2 : x.1 = 2
    · rw [if_pos h2]; exact alphD_fits _ (h.alp h2)
    · rw [if_neg h2]; exact byteD_fits _ h.lt
theorem strD_fits (v : Nat) (S : List (Nat × List Nat)) (h : ∀ x ∈ S, SegOk x) : FitsD (strD v S) := fun y hy => by
  obtain ⟨x, hx, hy⟩ := List.mem_flatMap.1 hy
  exact segD_fits v x (h x hx) y hy
theorem words_lt (B : List Bool) (room : Nat) : ∀ x ∈ wordsQ B room, x < 256 := fun x hx => by
  rcases List.mem_append.1 hx with hx | hx
  · obtain ⟨i, _, rfl⟩ := List.mem_map.1 hx
    exact bval_lt _ _ 8
  · obtain ⟨i, _, rfl⟩ := List.mem_map.1 hx
    split <;> omega
theorem getD_lt {l : List Nat} (h : ∀ x ∈ l, x < 256) (j : Nat) : l.getD j 0 < 256 := by
  rw [List.getD]
  cases hj : l[j]? with
  | none => simp
  | some x => simpa using h x (List.mem_of_getElem? hj)
set_option maxRecDepth 20000 in
theorem segs_of {H : Type} {enc : TypeId × Value → H} {W : World} {A : Option Addr} {len cap fuel : Nat} {x : DataW H × List MemPlace} (h : DataW.trod enc Try.prog W 0 (fun _ => true) true fuel 47 (Value.slice A len cap).cells.toList = some x) :
    ∃ l : List (Int × List Nat), SegI W A len l ∧ len ≤ maxLen ∧ ∀ y ∈ l, (-9223372036854775808 ≤ y.1 ∧ y.1 ≤ 9223372036854775807) ∧ (∀ c ∈ y.2, c < 256) ∧ y.2.length ≤ maxLen := by
  rcases DataW.trod_slice Try.underlying47 h with ⟨hcs, _⟩ | ⟨a, len', cap', elems, rest, n, _, hcs, _, hb, hl, hm, hlen, hel, _, _⟩
  · simp [Value.cells] at hcs
    obtain ⟨rfl, rfl, rfl⟩ := hcs
    exact ⟨[], ⟨rfl, fun h => absurd h (by omega)⟩, by simp [maxLen], fun y hy => by cases hy⟩
  · simp [Value.cells] at hcs
    obtain ⟨rfl, rfl, rfl⟩ := hcs
    have c97 : Try.prog.cellsOf 97 = 2 := by kernel_rfl
    have c3 : Try.prog.cellsOf 3 = 1 := by kernel_rfl
    have c22 : Try.prog.cellsOf 22 = 1 := by kernel_rfl
    have each : ∀ i, ∃ y : Int × List Nat, i < len → ∃ R c, y.2.length ≤ c ∧ W.cell? (a.add (i * 2)) = some (.int .i64 y.1) ∧ W.cell? ((a.add (i * 2)).add 1) = some (.slice R y.2.length c) ∧ Rd W R y.2.length (u8s y.2) ∧ (Lit.int .i64 y.1).wf = true ∧ (∀ x ∈ y.2, x < 256) ∧ y.2.length ≤ maxLen := by
      intro i
      by_cases hi : i < len
      · have h1 := hel i hi
        rw [c97, List.getElem?_eq_getElem (show i < elems.length by omega), Option.bind_eq_some_iff] at h1
        obtain ⟨cs, hcs, hy⟩ := h1
        obtain ⟨hb2, hcl, hce⟩ := World.cells?_some hcs
        obtain ⟨y0, y1, n', _, _, h0, h1⟩ := trod_struct2 Try.underlying97 hy
        obtain ⟨u0, u1, rfl⟩ : ∃ u0 u1, cs = [u0, u1] := by
          match cs, hcl with
          | [u0, u1], _ => exact ⟨u0, u1, rfl⟩
        simp only [c3, c22] at h0 h1
        obtain ⟨m, e1, _, hw⟩ := DataW.trod_int Try.underlying3 h0
        simp at e1
        obtain ⟨R, k, c, e2⟩ : ∃ R k c, u1 = .slice R k c := by
          rcases DataW.trod_slice Try.underlying22 h1 with ⟨hq, _⟩ | ⟨a', l', c', _, _, _, _, hq, _⟩
          · simp at hq; exact ⟨_, _, _, hq⟩
          · simp at hq; exact ⟨_, _, _, hq⟩
        subst e2
        have h1' : DataW.trod enc Try.prog W 0 (fun _ => true) true n' 22 (Value.slice R k c).cells.toList = some y1 := by simpa [Value.cells] using h1
        obtain ⟨zs, hsl, hwf⟩ := slIn_ints Try.underlying22 Try.underlying5 (by kernel_rfl) h1'
        have hzl : zs.length = k := by simpa using hsl.1
        have hu : zs.map (Value.int .u8) = u8s (zs.map Int.toNat) := by
          unfold u8s
          rw [List.map_map]
          apply List.map_congr_left
          intro z hz
          have := wf_u8 (hwf z hz)
          simp only [Function.comp]
          congr 1; omega
        refine ⟨(m, zs.map Int.toNat), fun _ => ⟨R, c, by simpa [hzl] using hsl.2.1, ?_, ?_, ?_, hw, ?_, ?_⟩⟩
        · have := hce 0 (by omega)
          rw [show (a.add (i * 2)).add 0 = a.add (i * 2) from by simp [Addr.add]] at this
          rw [this, e1]; rfl
        · rw [hce 1 (by omega)]; simp [hzl]
        · have := hsl.rd
          rw [hu] at this
          simpa [hzl] using this
        · intro x hx
          obtain ⟨z, hz, rfl⟩ := List.mem_map.1 hx
          have := wf_u8 (hwf z hz); omega
        · have h2 := hsl.2.1; have h3 := hsl.2.2.1
          simp [hzl]; omega
      · exact ⟨(0, []), fun h => absurd h hi⟩
    obtain ⟨f, hf⟩ := Classical.skolem.1 each
    have hgd : ∀ k, k < len → ((List.range len).map f).getD k (0, []) = f k := fun k hk => by
      rw [List.getD, List.getElem?_map, List.getElem?_range hk]; rfl
    refine ⟨(List.range len).map f, ⟨by simp, fun hn => ?_⟩, by omega, fun y hy => ?_⟩
    · obtain ⟨b, off, spot⟩ := a
      obtain ⟨R0, c0, _, g0, _⟩ := hf 0 hn
      have hs : spot = none := by
        have := World.cell?_spot g0
        simpa [Addr.add] using this
      subst hs
      refine ⟨b, off, rfl, ?_, fun k hk => ?_⟩
      · have h0' : W.cell? ⟨b, off, none⟩ = some (.int .i64 (f 0).1) := by simpa [Addr.add] using g0
        unfold World.cell? at h0'
        rcases Nat.lt_or_ge b W.heap.size with hl | hl
        · exact hl
        · simp only [Array.getElem?_eq_none hl] at h0'; cases h0'
      · rw [hgd k hk]
        obtain ⟨R, c, g1, g2, g3, g4, _⟩ := hf k hk
        simp only [add_none] at g2 g3
        exact ⟨R, c, g1, g2, g3, g4⟩
    · obtain ⟨i, hi, rfl⟩ := List.mem_map.1 hy
      obtain ⟨R, c, _, _, _, _, g5, g6, g7⟩ := hf i (List.mem_range.1 hi)
      exact ⟨wf_i64 g5, g6, g7⟩
end Go.Proofs.Ytpffffhgmhpkiaa
