/- The search for the places of the errors: the inverses of the roots of a polynomial. -/
import Derived.Test.YtpkmknbmjlnkgaaEucW
namespace Go.Proofs.Ytpkmknbmjlnkgaa
open Go.RowKit
set_option linter.unusedVariables false

/-- The inverses of the roots among the first k elements, at most N. -/
def locTo (p m : Nat) (sg : List Nat) (N : Nat) : Nat → List Nat
  | 0 => []
  | k + 1 => if (locTo p m sg N k).length < N ∧ valAt p m (k + 1) sg = 0 then locTo p m sg N k ++ [inv p m (k + 1)] else locTo p m sg N k
/-- The places that a locator says, if it has as many roots as it should. -/
def locsOf (p m : Nat) (sg : List Nat) : Option (List Nat) :=
  if sg.length - 1 = 1 then some [sg.getD 0 0] else if (locTo p m sg (sg.length - 1) (2 ^ m - 1)).length = sg.length - 1 then some (locTo p m sg (sg.length - 1) (2 ^ m - 1)) else none

section
variable {p m : Nat}
theorem locTo_le (sg : List Nat) (N : Nat) : ∀ k, (locTo p m sg N k).length ≤ N
  | 0 => by simp [locTo]
  | k + 1 => by
    have := locTo_le sg N k
    rw [locTo]
    split
    · simp; omega
    · exact this
theorem locTo_full (sg : List Nat) (N k : Nat) (hf : (locTo p m sg N k).length = N) : ∀ j, locTo p m sg N (k + j) = locTo p m sg N k
  | 0 => rfl
  | j + 1 => by
    rw [show k + (j + 1) = (k + j) + 1 from by omega, locTo, locTo_full sg N k hf j, if_neg (by omega)]
theorem locTo_in (h : IsGF p m) (sg : List Nat) (N : Nat) : ∀ k, ∀ x ∈ locTo p m sg N k, 0 < x ∧ x < 2 ^ m
  | 0, x, hx => by simp [locTo] at hx
  | k + 1, x, hx => by
    rw [locTo] at hx
    split at hx
    · rcases List.mem_append.1 hx with h1 | h1
      · exact locTo_in h sg N k x h1
      · rw [List.mem_singleton.1 h1]; exact ⟨inv_pos h _, inv_lt h _⟩
    · exact locTo_in h sg N k x hx
end

/-- The places are handed back, or an error. -/
def LocOut (p m : Nat) (sg : List Nat) (w : World) (e : Ending) (w' : World) : Prop :=
  Below w.heap.size w w' ∧ ((locsOf p m sg = none ∧ ∃ v, e = .returned (.tuple #[.slice none 0 0, .iface 108 v])) ∨
    ∃ l B, locsOf p m sg = some l ∧ e = .returned (.tuple #[.slice (some ⟨B, 0, none⟩) l.length l.length, .nilIface]) ∧ w.heap.size ≤ B ∧ Arr w' B 3 (ints l))

attribute [local go_sem ↓] Go.wp_at_zero Go.wp_at_succ
set_option maxRecDepth 100000 in
set_option maxHeartbeats 4000000 in
theorem findLocs (D q g p m base B : Nat) (sg : List Nat) (w : World) (h : IsGF p m) (hF : IsField w g p m base) (hD : w.cell? ⟨D, 0, none⟩ = some (fieldPtr g)) (hP : IsPoly w B q (fieldPtr g) sg) (hG : Good m 200 sg) :
    Calls Try.prog 63 #[fieldPtr D, fieldPtr q] w (LocOut p m sg w) := by
  have hN1 : 2 ^ m ≤ 4096 := Nat.pow_le_pow_right (n := 2) (by omega) h.small
  have hN4 : 4 ≤ 2 ^ m := Nat.pow_le_pow_right (n := 2) (by omega) h.pos
  obtain ⟨i0, hi, hz0, hz1, hz2⟩ := info_parts info3
  have hDl : D < w.heap.size := World.block_lt_of_cell? w _ hD
  have h1 := hG.2.2.1
  have hn := hG.2.2.2
  have dg := degree q B _ sg w hP h1 (by omega)
  have HF := hid hF
  have HP := hid hP
  have HDC := hid hD
  have HG := hid hG
  have H := hid h
  clear hG h
  by_cases hone : sg.length - 1 = 1
  · have gc : Calls Try.prog 49 #[fieldPtr q, .int .i64 1] w (DrewOut (.int .i64 (sg.getD 0 0 : Nat)) w) := by
      have := getCoefficient q 1 B _ sg w hP (by omega) (by omega)
      rwa [show sg.length - 1 - 1 = 0 from by omega] at this
    have hl : locsOf p m sg = some [sg.getD 0 0] := by rw [locsOf, if_pos hone]
    have HL := hid hl
    have A1 := fun W => Arr.of_new W 3 #[.int .i64 (sg.getD 0 0 : Nat)]
    rw [hone] at dg
    clear hl hF hP
    generalize sg.getD 0 0 = s0 at *
    unfold fieldPtr at *
    go_enter Try.func63, Try.ntmps63
    go_wp2_with fail
    refine dg.mono ?_
    rintro e w1 ⟨rfl, rfl⟩
    go_wp2_with fail
    refine gc.mono ?_
    rintro e w1 ⟨rfl, n1, rfl⟩
    clear gc dg
    go_wp2_with fail
    go_ret2
    exact ⟨(below_drewN (Below.refl _ _) n1).alloc (Nat.le_refl _) _, .inr ⟨[s0], w.heap.size, HL.out, rfl, Nat.le_refl _, A1 _⟩⟩
  · have hone' : (((sg.length - 1 : Nat) : Int) == 1) = false := by rw [beq_eq_false_iff_ne]; omega
    have hloc : locsOf p m sg = if (locTo p m sg (sg.length - 1) (2 ^ m - 1)).length = sg.length - 1 then some (locTo p m sg (sg.length - 1) (2 ^ m - 1)) else none := by rw [locsOf, if_neg hone]
    have HLOC := hid hloc
    have hNl : sg.length - 1 ≤ 199 := by omega
    have HLE := hid (fun k => locTo_le (p := p) (m := m) sg (sg.length - 1) k)
    have HFULL := hid (fun k hf j => locTo_full (p := p) (m := m) sg (sg.length - 1) k hf j)
    have hstep : ∀ k, locTo p m sg (sg.length - 1) (k + 1) = if (locTo p m sg (sg.length - 1) k).length < sg.length - 1 ∧ valAt p m (k + 1) sg = 0 then locTo p m sg (sg.length - 1) k ++ [inv p m (k + 1)] else locTo p m sg (sg.length - 1) k := fun k => rfl
    have HSTEP := hid hstep
    have hl0 : locTo p m sg (sg.length - 1) 0 = [] := rfl
    have HL0 := hid hl0
    clear hloc hone hF hP hl0 hstep
    obtain ⟨N, hNe⟩ : ∃ N, N = sg.length - 1 := ⟨_, rfl⟩
    rw [← hNe] at HLOC HLE HFULL HSTEP HL0 hone' dg
    have hN199 : N ≤ 199 := by omega
    have hmk := fun W => run_make (P := Try.prog) W 30 3 i0 (.int .i64 0) Try.underlying30 hi hz0 .i64 .i64 (N : Int) (N : Int) (by omega) (by omega) (by rw [hz2]; omega) (by omega)
    simp only [hz1] at hmk
    have HFLD := hid (fun W (hW : Below w.heap.size w W) => HF.out.below hW)
    have HPLD := hid (fun W (hW : Below w.heap.size w W) => HP.out.below hW)
    have HDLD := hid (fun W (hW : Below w.heap.size w W) => (hW.cell (p := ⟨D, 0, none⟩) hDl).trans HDC.out)
    have hA1 := Arr.made w 3 (.int .i64 0) N
    have HA1 := hid hA1
    have HB1 := hid (show Below w.heap.size w (w.alloc (.cells (madeCells #[.int .i64 0] N) 3)) from (Below.refl _ _).alloc (Nat.le_refl _) _)
    obtain ⟨Q, hQ⟩ : ∃ Q, Q = 2 ^ m := ⟨_, rfl⟩
    have HQ := hid hQ
    rw [← hQ] at HLOC hN1 hN4
    clear hA1 hNe hNl hQ
    obtain ⟨LT, hLT⟩ : ∃ LT : Nat → List Nat, LT = locTo p m sg N := ⟨_, rfl⟩
    rw [← hLT] at HLOC HLE HFULL HSTEP HL0
    clear hLT
    unfold fieldPtr at *
    go_enter Try.func63, Try.ntmps63
    go_wp2_with fail
    refine dg.mono ?_
    rintro e w1 ⟨rfl, rfl⟩
    clear dg
    go_wp2_with fail
    generalize hw1 : w.alloc (.cells (madeCells #[.int .i64 0] N) 3) = w1 at *
    clear hw1 hmk
    go_loopw [8, 9] (fun ev iv wr => ∃ k, k + 1 ≤ Q ∧ iv = .int .i64 ((k + 1 : Nat) : Int) ∧ ev = .int .i64 ((LT k).length : Nat) ∧ Arr wr w.heap.size 3 (ints (LT k ++ List.replicate (N - (LT k).length) 0)) ∧ Below w.heap.size w wr) (fun _ iv _ => Q - (intOf iv).toNat)
    case atStart => exact ⟨0, by omega, rfl, by rw [HL0.out]; rfl, by rw [HL0.out]; simpa [ints] using HA1.out, HB1.out⟩
    case round =>
      clear HA1 HB1
      obtain ⟨k, hk, rfl, rfl, hA, hB⟩ := hrel
      have hle := HLE.out k
      have sz := sizeOf_ g p m base wr (HFLD.out wr hB)
      rw [← HQ.out] at sz
      have hDw := HDLD.out wr hB
      have HA := hid hA
      have HB := hid hB
      have hfin : (k + 1 < Q ∧ (LT k).length < N) ∨ ¬ (k + 1 < Q ∧ (LT k).length < N) := Classical.em _
      rcases hfin with ⟨hkq, hful⟩ | hfin
      · have hkq' : ((k + 1 : Nat) : Int) < (Q : Int) := by omega
        have hful' : (((LT k).length : Nat) : Int) < (N : Int) := by omega
        have ev := evaluateAt q g p m base B (k + 1) sg wr H.out (HFLD.out wr hB) (HPLD.out wr hB) h1 (by omega) (by rw [← HQ.out]; exact hkq) HG.out.2.1
        by_cases hv : valAt p m (k + 1) sg = 0
        · have HLS := hid (show LT (k + 1) = LT k ++ [inv p m (k + 1)] by rw [HSTEP.out k, if_pos ⟨hful, hv⟩])
          rw [hv] at ev
          have iv := fun n => inverse g p m base (k + 1) (wr.drewN n) H.out (HFLD.out _ (below_drewN hB n)) (by omega) (by rw [← HQ.out]; exact hkq)
          have hDn := fun n => (show (wr.drewN n).cell? ⟨D, 0, none⟩ = some (.pointer (some ⟨g, 0, none⟩)) from hDw)
          have hlen : (ints (LT k ++ List.replicate (N - (LT k).length) 0)).length = N := by rw [ints_length, List.length_append, List.length_replicate]; omega
          have hset : (ints (LT k ++ List.replicate (N - (LT k).length) 0)).set (LT k).length (.int .i64 (inv p m (k + 1) : Nat)) = ints (LT (k + 1) ++ List.replicate (N - (LT (k + 1)).length) 0) := by
            rw [HLS.out]
            obtain ⟨d, hd⟩ : ∃ d, N - (LT k).length = d + 1 := ⟨N - (LT k).length - 1, by omega⟩
            rw [hd, List.length_append, show N - ((LT k).length + [inv p m (k + 1)].length) = d from by simp; omega, List.replicate_succ]
            simp [ints]
          have hl2 : (LT (k + 1)).length = (LT k).length + 1 := by rw [HLS.out]; simp
          have HSET := hid hset
          have HL2 := hid hl2
          have hcell := fun n => (HA.out.drewN n).has (LT k).length (by rw [hlen]; omega)
          have fz := fun n => (HA.out.drewN n).frozen (LT k).length
          have HC := hid hcell
          have hSZ : w.heap.size ≤ w.heap.size := Nat.le_refl _
          clear hset hl2 hA hB hcell HLS hv hlen
          generalize inv p m (k + 1) = y at *
          generalize hge : (LT k).length = e0 at *
          clear hge
          unfold fieldPtr at *
          go_wp2_with fail
          refine sz.mono ?_
          rintro e w2 ⟨rfl, rfl⟩
          clear sz
          go_wp2_with fail
          refine ev.mono ?_
          rintro e w2 ⟨rfl, n2, rfl⟩
          clear ev
          have hDn2 := hDn n2
          go_wp2_with fail
          refine (iv _).mono ?_
          rintro e w3 ⟨rfl, n3, rfl⟩
          clear iv hDn hDn2
          obtain ⟨v0, hv0⟩ := HC.out (n2 + n3)
          have fz1 := fz (n2 + n3)
          go_wp2_with fail
          go_roundw
          case rel =>
            refine ⟨k + 1, by omega, by go_num, by rw [HL2.out]; go_num, ?_, (below_drewN HB.out _).setCell (Nat.le_refl _) _⟩
            rw [← HSET.out]
            exact (HA.out.drewN _).set _ _
          case measure => simp [intOf]; omega
        · have hv' : (((valAt p m (k + 1) sg : Nat) : Int) == 0) = false := by rw [beq_eq_false_iff_ne]; omega
          have HLS := hid (show LT (k + 1) = LT k by rw [HSTEP.out k, if_neg (fun hh => hv hh.2)])
          clear hv hA hB
          generalize valAt p m (k + 1) sg = vv at *
          generalize hge : (LT k).length = e0 at *
          have HGE := hid hge
          clear hge
          unfold fieldPtr at *
          go_wp2_with fail
          refine sz.mono ?_
          rintro e w2 ⟨rfl, rfl⟩
          clear sz
          go_wp2_with fail
          refine ev.mono ?_
          rintro e w2 ⟨rfl, n2, rfl⟩
          clear ev
          go_wp2_with fail
          go_roundw
          case rel => exact ⟨k + 1, by omega, by go_num, by rw [HLS.out, HGE.out], by rw [HLS.out, HGE.out]; exact HA.out.drewN _, below_drewN HB.out _⟩
          case measure => simp [intOf]; omega
      · clear hA hB
        by_cases hful : (LT k).length = N
        · have HRES := hid (show locsOf p m sg = some (LT k) by
            rw [HLOC.out, show Q - 1 = k + (Q - 1 - k) from by omega, HFULL.out k hful, if_pos hful])
          have HA2 := hid (show Arr wr w.heap.size 3 (ints (LT k)) by have := HA.out; rwa [hful, Nat.sub_self, List.replicate_zero, List.append_nil] at this)
          have HFL := hid hful
          rw [hful]
          clear hfin HA hful hle
          by_cases hkq : k + 1 < Q
          · have hkq' : ((k + 1 : Nat) : Int) < (Q : Int) := by omega
            unfold fieldPtr at *
            go_wp2_with fail
            refine sz.mono ?_
            rintro e w2 ⟨rfl, rfl⟩
            clear sz
            go_wp2_with fail
            go_ret2
            exact ⟨HB.out, .inr ⟨LT k, w.heap.size, HRES.out, by rw [HFL.out]; rfl, Nat.le_refl _, HA2.out⟩⟩
          · have hkq' : ¬ ((k + 1 : Nat) : Int) < (Q : Int) := by omega
            unfold fieldPtr at *
            go_wp2_with fail
            refine sz.mono ?_
            rintro e w2 ⟨rfl, rfl⟩
            clear sz
            go_wp2_with fail
            go_ret2
            exact ⟨HB.out, .inr ⟨LT k, w.heap.size, HRES.out, by rw [HFL.out]; rfl, Nat.le_refl _, HA2.out⟩⟩
        · have hkq : ¬ k + 1 < Q := by omega
          have hkq' : ¬ ((k + 1 : Nat) : Int) < (Q : Int) := by omega
          have hful' : ((((LT k).length : Nat) : Int) == (N : Int)) = false := by rw [beq_eq_false_iff_ne]; omega
          have HRES := hid (show locsOf p m sg = none by
            rw [HLOC.out, show Q - 1 = k from by omega, if_neg hful])
          clear hfin hful HA
          generalize (LT k).length = e0 at *
          unfold fieldPtr at *
          go_wp2_with fail
          refine sz.mono ?_
          rintro e w2 ⟨rfl, rfl⟩
          clear sz
          go_wp2_with fail
          refine (newRSExc _ _).mono ?_
          rintro e w3 ⟨⟨u3, rfl⟩, rfl⟩
          go_wp2_with fail
          go_ret2
          exact ⟨HB.out, .inl ⟨HRES.out, _, rfl⟩⟩
end Go.Proofs.Ytpkmknbmjlnkgaa
