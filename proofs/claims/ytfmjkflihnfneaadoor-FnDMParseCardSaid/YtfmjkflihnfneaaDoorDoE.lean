/- laws.FnDMParse: segments that come in; zzFits5, zzFits6; the law's walk. -/
import Derived.Test.YtfmjkflihnfneaaDoorDoC
import Derived.ChangeSame
namespace Go.Proofs.YtfmjkflihnfneaaDoor
open Go.RowKit Go.ChangeShapes Go.WideShapes
set_option linter.unusedVariables false
set_option linter.unusedSimpArgs false

def cellStr : Option Value → List Nat
  | some (Value.string s) => s.data.toList.map UInt8.toNat
  | _ => []
theorem cellStr_some (s : ByteArray) : strOf (cellStr (some (.string s))) = s := by
  apply ByteArray.ext
  unfold strOf cellStr
  apply Array.ext'
  simp only [List.map_map]
  exact List.map_id'' (fun x => by simp) _
theorem cellStr_lt (o : Option Value) : ∀ c ∈ cellStr o, c < 256 := by
  intro c hc
  unfold cellStr at hc
  split at hc
  · obtain ⟨x, _, rfl⟩ := List.mem_map.1 hc
    exact x.toNat_lt
  · cases hc
theorem add_none (b o j : Nat) : (⟨b, o, none⟩ : Addr).add j = ⟨b, o + j, none⟩ := by
  unfold Addr.add
  by_cases h : j = 0
  · subst h; simp
  · simp [h]
set_option maxRecDepth 20000 in
theorem segs_of {H : Type} {enc : TypeId × Value → H} {W : World} {A : Option Addr} {len cap fuel : Nat} {x : DataW H × List MemPlace} (h : DataW.trod enc Tryd.prog W 0 (fun _ => true) true fuel 25 (Value.slice A len cap).cells.toList = some x) :
    ∃ l : List (Int × List Nat), l.length = len ∧ Segs W A len l ∧ ∀ y ∈ l, (-9223372036854775808 ≤ y.1 ∧ y.1 ≤ 9223372036854775807) ∧ ∀ c ∈ y.2, c < 256 := by
  rcases DataW.trod_slice Tryd.underlying25 h with ⟨hcs, _⟩ | ⟨a, len', cap', elems, rest, n, _, hcs, _, hb, hl, hm, hlen, hel, _, _⟩
  · simp [Value.cells] at hcs
    obtain ⟨rfl, rfl, rfl⟩ := hcs
    exact ⟨[], rfl, ⟨rfl, fun h => absurd h (by omega)⟩, fun y hy => by cases hy⟩
  · simp [Value.cells] at hcs
    obtain ⟨rfl, rfl, rfl⟩ := hcs
    have c24 : Tryd.prog.cellsOf 24 = 2 := by kernel_rfl
    have c3 : Tryd.prog.cellsOf 3 = 1 := by kernel_rfl
    have c9 : Tryd.prog.cellsOf 9 = 1 := by kernel_rfl
    have each : ∀ i, i < len → ∃ (m : Int) (s : ByteArray), W.cell? (a.add (i * 2)) = some (.int .i64 m) ∧ W.cell? ((a.add (i * 2)).add 1) = some (.string s) ∧ (Lit.int .i64 m).wf = true := by
      intro i hi
      have h1 := hel i hi
      rw [c24, List.getElem?_eq_getElem (show i < elems.length by omega), Option.bind_eq_some_iff] at h1
      obtain ⟨cs, hcs, hy⟩ := h1
      obtain ⟨hb2, hcl, hce⟩ := World.cells?_some hcs
      obtain ⟨y0, y1, n', _, _, h0, h1⟩ := trod_struct2 Tryd.underlying24 hy
      obtain ⟨u0, u1, rfl⟩ : ∃ u0 u1, cs = [u0, u1] := by
        match cs, hcl with
        | [u0, u1], _ => exact ⟨u0, u1, rfl⟩
      simp only [c3, c9] at h0 h1
      obtain ⟨m, e1, _, hw⟩ := DataW.trod_int Tryd.underlying3 h0
      obtain ⟨s, e2, _, _⟩ := DataW.trod_string Tryd.underlying9 h1
      simp at e1 e2
      refine ⟨m, s, ?_, ?_, hw⟩
      · have := hce 0 (by omega)
        rw [show (a.add (i * 2)).add 0 = a.add (i * 2) from by simp [Addr.add]] at this
        rw [this, e1]; rfl
      · rw [hce 1 (by omega), e2]; rfl
    refine ⟨(List.range len).map fun i => (cellNum (W.cell? (a.add (i * 2))), cellStr (W.cell? ((a.add (i * 2)).add 1))), by simp, ⟨by simp, fun hn => ?_⟩, fun y hy => ?_⟩
    · obtain ⟨b, off, spot⟩ := a
      obtain ⟨m0, s0, g0, _⟩ := each 0 hn
      have hs : spot = none := by
        have := World.cell?_spot g0
        simpa [Addr.add] using this
      subst hs
      refine ⟨b, off, rfl, ?_, fun k hk => ?_⟩
      · have h0' : W.cell? ⟨b, off, none⟩ = some (.int .i64 m0) := by simpa [Addr.add] using g0
        unfold World.cell? at h0'
        rcases Nat.lt_or_ge b W.heap.size with hl | hl
        · exact hl
        · simp only [Array.getElem?_eq_none hl] at h0'; cases h0'
      · obtain ⟨m, s, g1, g2, _⟩ := each k hk
        simp only [add_none] at g1 g2
        have e : ((List.range len).map fun i => (cellNum (W.cell? ((⟨b, off, none⟩ : Addr).add (i * 2))), cellStr (W.cell? (((⟨b, off, none⟩ : Addr).add (i * 2)).add 1)))).getD k (0, []) = (m, cellStr (some (.string s))) := by
          rw [List.getD, List.getElem?_map, List.getElem?_range hk]
          simp only [Option.map_some, Option.getD_some, add_none, g1, g2, cellNum]
        rw [e]
        exact ⟨g1, by rw [g2, cellStr_some]⟩
    · obtain ⟨i, hi, rfl⟩ := List.mem_map.1 hy
      obtain ⟨m, s, g1, g2, hw⟩ := each i (List.mem_range.1 hi)
      refine ⟨?_, cellStr_lt _⟩
      simp only [g1, cellNum]
      exact wf_i64 hw

theorem fits6 (m : Int) (st : ByteArray) (w : World) : Calls Tryd.prog 13 #[.agg #[.int .i64 m, .string st]] w (fun e w' => e = .returned (.bool (decide (st.size ≤ 2147483647))) ∧ Below w.heap.size w w') := by
  by_cases h : st.size ≤ 2147483647
  · have h' : ¬ (2147483647 : Int) < (st.size : Int) := by omega
    go_enter Tryd.func13, Tryd.ntmps13
    go_wp2_with fail
    go_ret
    exact ⟨by simp [h], (Below.refl _ _).alloc (Nat.le_refl _) _⟩
  · have h' : (2147483647 : Int) < (st.size : Int) := by omega
    go_enter Tryd.func13, Tryd.ntmps13
    go_wp2_with fail
    go_ret
    exact ⟨by simp [h], (Below.refl _ _).alloc (Nat.le_refl _) _⟩
/-- Whether all texts are short enough, told by a bool. -/
def FitsOut (l : List (Int × List Nat)) (w : World) (e : Ending) (w' : World) : Prop :=
  ∃ b : Bool, e = .returned (.bool b) ∧ (b = true → l.length ≤ 2147483647 ∧ ∀ x ∈ l, x.2.length ≤ 2147483647) ∧ Below w.heap.size w w'
set_option maxRecDepth 20000 in
set_option maxHeartbeats 4000000 in
theorem fits5 (l : List (Int × List Nat)) (A : Option Addr) (c : Nat) (w : World) (hS : Segs w A l.length l) : Calls Tryd.prog 7 #[.slice A l.length c] w (FitsOut l w) := by
  obtain ⟨N, hN⟩ : ∃ N, N = l.length := ⟨_, rfl⟩
  rw [← hN] at hS ⊢
  have HN := hid hN
  have HS := hid hS
  clear hN hS
  by_cases hbig : N ≤ 2147483647
  case neg =>
    have h' : (2147483647 : Int) < (N : Int) := by omega
    go_enter Tryd.func7, Tryd.ntmps7
    go_wp2_with fail
    go_ret
    exact ⟨false, rfl, (fun h => by cases h), Below.refl _ _⟩
  case pos =>
  have h' : ¬ (2147483647 : Int) < (N : Int) := by omega
  go_enter Tryd.func7, Tryd.ntmps7
  go_wp2_with fail
  go_loopw [10] (fun iv wr => ∃ (k : Nat), k ≤ N ∧ iv = .int .i64 (k : Nat) ∧ Hid (∀ j, j < k → (l.getD j (0, [])).2.length ≤ 2147483647) ∧ Hid (Below w.heap.size w wr)) (fun iv _ => N - (intOf iv).toNat)
  case atStart => exact ⟨0, by omega, rfl, hid (fun j hj => absurd hj (by omega)), hid (Below.refl _ _)⟩
  case round =>
    obtain ⟨k, hk1, rfl, HJ, HB⟩ := hrel
    have hbs := HB.out.size
    by_cases hlt : k < N
    case neg =>
      obtain rfl : k = N := by omega
      have hlt' : ¬ (k : Int) < (k : Int) := by omega
      go_wp2_with fail
      go_ret
      refine ⟨true, rfl, fun _ => ⟨by rw [← HN.out]; exact hbig, fun x hx => ?_⟩, HB.out⟩
      obtain ⟨j, hj, rfl⟩ := List.getElem_of_mem hx
      have := HJ.out j (by rw [HN.out]; exact hj)
      rwa [List.getD, List.getElem?_eq_getElem hj] at this
    case pos =>
      have hlt' : (k : Int) < (N : Int) := by omega
      obtain ⟨b, o, hA, hb, hc⟩ := (HS.out.2 (by omega))
      subst hA
      obtain ⟨c0, c1⟩ := hc k hlt
      have c0 := (HB.out.cell (p := ⟨b, o + k * 2, none⟩) hb).trans c0
      have c1 := (HB.out.cell (p := ⟨b, o + k * 2 + 1, none⟩) hb).trans c1
      have HJK := hid (fun h2 j (hj : j < k + 1) => show (l.getD j (0, [])).2.length ≤ 2147483647 from by
        by_cases h : j < k
        · exact HJ.out j h
        · obtain rfl : j = k := by omega
          exact h2)
      have hs1 := strOf_size (l.getD k (0, [])).2
      generalize (l.getD k (0, [])).1 = m at *
      generalize (l.getD k (0, [])).2 = t at *
      have HB2 := hid (HB.out.alloc hbs (.cells #[.int .i64 m, .string (strOf t)] 24))
      rw [← hs1] at HJK
      generalize strOf t = st at *
      have HF := hid (fun W => fits6 m st W)
      by_cases h15 : st.size ≤ 2147483647
      case neg =>
        have hd : decide (st.size ≤ 2147483647) = false := by simp; omega
        rw [hd] at HF
        clear HJK hc hs1
        go_wp2_with (go_at_call 13; ((with_reducible refine (HF.out _).mono ?_); rintro e w1 ⟨rfl, hb1⟩))
        go_ret
        exact ⟨false, rfl, (fun h => by cases h), HB2.out.trans (hb1.mono HB2.out.size)⟩
      case pos =>
        have hd : decide (st.size ≤ 2147483647) = true := by simp; omega
        rw [hd] at HF
        have HJK := hid (HJK.out h15)
        clear hc hs1
        go_wp2_with (go_at_call 13; ((with_reducible refine (HF.out _).mono ?_); rintro e w1 ⟨rfl, hb1⟩))
        go_roundw
        case rel => exact ⟨k + 1, by omega, by go_num, HJK, hid (HB2.out.trans (hb1.mono HB2.out.size))⟩
        case measure => simp [intOf]; omega
set_option maxRecDepth 20000 in
theorem FnDMParse_walk (w : World) (A : Option Addr) (len cap : Nat) (l : List (Int × List Nat)) (hl : l.length = len ∧ Segs w A len l ∧ ∀ y ∈ l, (-9223372036854775808 ≤ y.1 ∧ y.1 ≤ 9223372036854775807) ∧ ∀ c ∈ y.2, c < 256) (z : Int) (hz : (Lit.int .i64 z).wf = true) :
    Calls Tryd.prog 4 #[.slice A len cap, .int .i64 z] w (TrueBelow w) := by
  obtain ⟨hz1, hz2⟩ := wf_i64 hz
  obtain ⟨rfl, hS, hy⟩ := hl
  have HF := hid (fits5 l A cap w hS)
  have HP := hid (fun W (hb : Below w.heap.size w W) (h : l.length ≤ 2147483647 ∧ ∀ x ∈ l, x.2.length ≤ 2147483647) => parsedM l (fun x hx => ⟨h.2 x hx, (hy x hx).2⟩) (fun x hx => (hy x hx).1) h.1 A cap z hz1 hz2 W (hS.below hb))
  obtain ⟨N, hN⟩ : ∃ N, N = l.length := ⟨_, rfl⟩
  rw [← hN] at HF HP ⊢
  have hN2 := hid hN
  clear hN hS hy hz1 hz2
  go_enter Tryd.func4, Tryd.ntmps4
  go_wp2_with fail
  refine HF.out.mono ?_
  rintro e w1 ⟨b, rfl, hb, hb1⟩
  cases b with
  | false =>
    go_wp2_with fail
    go_ret
    exact ⟨rfl, hb1⟩
  | true =>
    have HPP := hid (HP.out w1 hb1 (by rw [hN2.out]; exact hb rfl))
    go_wp2_with (go_at_call 6; ((with_reducible refine HPP.out.mono ?_); rintro e w2 ⟨rfl, hb2⟩))
    go_ret
    exact ⟨rfl, hb1.trans (hb2.mono hb1.size)⟩
end Go.Proofs.YtfmjkflihnfneaaDoor
