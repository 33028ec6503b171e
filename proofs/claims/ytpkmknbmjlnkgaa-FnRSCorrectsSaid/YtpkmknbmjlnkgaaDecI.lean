/- impl.RSDecode, and the test that all are elements. -/
import Derived.Test.YtpkmknbmjlnkgaaDecW
import Derived.Test.YtpkmknbmjlnkgaaCodeE
namespace Go.Proofs.Ytpkmknbmjlnkgaa
open Go.RowKit
set_option linter.unusedVariables false

theorem cur_front {w : World} {tb n : Nat} {xs cur : List Value} (hA : Arr w tb 3 cur) (hR : Rd w (some ⟨tb, 0, none⟩) n xs) (hn : n ≤ cur.length) : cur = xs ++ cur.drop n := by
  have hl : xs.length = n := hR.1
  apply List.ext_getElem?
  intro k
  rcases Nat.lt_or_ge k n with h1 | h1
  · obtain ⟨b, o, e, hc⟩ := hR.at_ k h1
    injection e with e
    injection e with e1 e2
    subst e1 e2
    rw [Nat.zero_add, hA.cell? k] at hc
    rw [hc, List.getElem?_append_left (by omega)]
  · rw [List.getElem?_append_right (by omega), hl, List.getElem?_drop, show n + (k - n) = k from by omega]

/-- The words put right, or nothing. -/
def DecList (p m base R : Nat) (l : List Nat) (w : World) (e : Ending) (w' : World) : Prop :=
  Below w.heap.size w w' ∧ ∃ o, DecRel p m base R l o ∧ ((o = none ∧ e = .returned (.tuple #[.slice none 0 0, .bool false])) ∨
    ∃ l' tb c rest, o = some l' ∧ e = .returned (.tuple #[.slice (some ⟨tb, 0, none⟩) l'.length c, .bool true]) ∧ w.heap.size ≤ tb ∧ Arr w' tb 3 (ints l' ++ rest) ∧ l'.length ≤ c)

set_option maxRecDepth 20000 in
set_option maxHeartbeats 2000000 in
theorem implDecode (p m N base R : Nat) (A : Option Addr) (n c : Nat) (l : List Nat) (w : World) (h : IsGF p m) (hN : Hid (N = 2 ^ m)) (hb : base ≤ 1) (hR : Rd w A n (ints l)) (hn1 : 1 ≤ n) (hn : n ≤ 1000) (hA : AllIn m l) (hR1 : 2 ≤ R) (hR2 : R ≤ 100) (hRm : R + base ≤ 2 ^ m) :
    Calls Try.prog 27 #[fieldVal p N base, .slice A n c, .int .i64 R] w (DecList p m base R l w) := by
  obtain ⟨i0, hi, hz0, hz1, hz2⟩ := info_parts info3
  have hl : l.length = n := by have := hR.1; simpa [ints] using this
  have HL := hid hl
  clear hl
  unfold fieldVal
  have b0 : Below w.heap.size w (w.alloc (.cells #[.int .i64 p, .int .i64 N, .int .i64 base] 23)) := (Below.refl _ _).alloc (Nat.le_refl _) _
  have HF := hid (Arr.of_new w 23 #[.int .i64 p, .int .i64 N, .int .i64 base])
  have hlen : (ints l).length = n := by rw [ints_length, HL.out]
  go_enter Try.func27, Try.ntmps27
  go_wp2_with (at_builtin; (refine wpList_app _ rfl (.const (.slice none 0 0)) (.tmp 10) 30 rfl (w.heap.size + 1) 3 i0 _ 8 Try.underlying30 hi hz0 hz1 hz2 rfl (.slice none 0 0) [] rfl (Own.nil _ _ _) A n c (ints l) rfl (hR.alloc _) (ints_one _) (by simp [maxLen]; omega) (by simp; omega) (by simp) ?_))
  intro v1 w2 hO hg _
  have HB := hid (show Below w.heap.size w w2 from b0.grown hg (by simp) (fun j hj => by simp [Value.ownBlock] at hj))
  have HF2 := hid (HF.out.grown hg (by simp [Value.ownBlock]))
  have HS2 := hid (show w.heap.size + 1 ≤ w2.heap.size from Nat.le_trans (by simp) hg.size)
  obtain ⟨tb, tc, cur, hv2, htb, hT, htl, htc, hTR⟩ := hO.arr (by rw [hlen]; exact hn1)
  rw [hlen] at hv2 htl htc hTR
  subst hv2
  have hcf := cur_front hT hTR htl
  rw [hcf] at hT
  have htbl := hT.lt
  have HT := hid hT
  generalize cur.drop n = rest at *
  clear hO hg b0 HF hR hcf hT hTR htl hlen
  have d0 := HF2.out.cell? 0
  have d1 := HF2.out.cell? 1
  have d2 := HF2.out.cell? 2
  try simp only at d0 d1 d2
  go_wp2_with fail
  refine (implFieldB p m N base _ h hN hb).mono ?_
  rintro e w4 ⟨g, rfl, hg, hF, hLg, hb4⟩
  have HF4 := hid hF
  have HLG := hid hLg
  have HB4 := hid (show Below w2.heap.size w2 w4 from hb4)
  clear hF hLg hb4 d0 d1 d2
  unfold fieldPtr
  have nd := newDec g w4
  unfold fieldPtr at nd
  go_wp2_with fail
  refine nd.mono ?_
  rintro e w5 ⟨D, rfl, hD, hAD, hb5⟩
  have HAD := hid hAD
  have HB5 := hid hb5
  have HB35 := hid (HB4.out.trans (hb5.mono HB4.out.size))
  have hS24 := HB4.out.size
  clear nd hAD hb5
  have dc := decode D g p m base w2.heap.size w.heap.size tb n tc R l rest w5 h hb (HF4.out.below HB5.out) (HLG.out.below HB5.out) HAD.out (HT.out.below HB35.out HT.out.lt) HL.out hn1 hn htc hA hR1 hR2 hRm (by omega) htbl (by omega)
  unfold fieldPtr at *
  go_wp2_with fail
  refine dc.mono ?_
  clear dc
  rintro e w6 ⟨hb6, o, hrel, hcase⟩
  have HB6 := hid (HB.out.trans (HB35.out.mono (by omega)) |>.trans hb6)
  have HREL := hid hrel
  clear hb6 hrel
  rcases hcase with ⟨ho, v, rfl⟩ | ⟨l', ho, rfl, hA'⟩
  · have HO := hid ho
    clear ho
    go_wp2_with fail
    go_ret2
    exact ⟨HB6.out, o, HREL.out, .inl ⟨HO.out, rfl⟩⟩
  · have HO := hid ho
    have HA' := hid hA'
    have HLL := hid (show l'.length = n from by rw [dec_len (HO.out ▸ HREL.out), HL.out])
    clear ho hA'
    go_wp2_with fail
    go_ret2
    exact ⟨HB6.out, o, HREL.out, .inr ⟨l', tb, tc, rest, HO.out, by rw [HLL.out]; rfl, by omega, HA'.out, by rw [HLL.out]; exact htc⟩⟩

set_option maxRecDepth 20000 in
set_option maxHeartbeats 1000000 in
theorem rsInW (p N base : Nat) (A : Option Addr) (n c : Nat) (l : List Nat) (w : World) (hR : Rd w A n (ints l)) (hn : n ≤ 1000) (hA : ∀ x ∈ l, x < N) :
    Calls Try.prog 29 #[fieldVal p N base, .slice A n c] w fun e w' => e = .returned (.bool true) ∧ Below w.heap.size w w' := by
  have hl : l.length = n := by have := hR.1; simpa [ints] using this
  unfold fieldVal
  have HF := hid (Arr.of_new w 23 #[.int .i64 p, .int .i64 N, .int .i64 base])
  have HB := hid (show Below w.heap.size w (w.alloc (.cells #[.int .i64 p, .int .i64 N, .int .i64 base] 23)) from (Below.refl _ _).alloc (Nat.le_refl _) _)
  have HR := hid (hR.alloc (.cells #[.int .i64 p, .int .i64 N, .int .i64 base] 23))
  have HAA := hid (fun j (hj : j < n) => (show l.getD j 0 < N from by
    rw [List.getD, List.getElem?_eq_getElem (by rw [hl]; exact hj)]
    exact hA _ (List.getElem_mem _)))
  clear hR hA hl
  go_enter Try.func29, Try.ntmps29
  go_wp2_with fail
  generalize hw1 : w.alloc (.cells #[.int .i64 p, .int .i64 N, .int .i64 base] 23) = w1 at *
  clear hw1
  go_loopw [5] (fun iv wr => ∃ i, i ≤ n ∧ iv = .int .i64 (i : Nat) ∧ Arr wr w.heap.size 23 [.int .i64 p, .int .i64 N, .int .i64 base] ∧ Rd wr A n (ints l) ∧ Below w.heap.size w wr) (fun iv _ => n - (intOf iv).toNat)
  case atStart => exact ⟨0, by omega, rfl, HF.out, HR.out, HB.out⟩
  case round =>
    obtain ⟨i, hi, rfl, hF, hR, hB⟩ := hrel
    have HB' := hid hB
    have HF' := hid hF
    have HR' := hid hR
    by_cases hlt : i < n
    · have hlt' : (i : Int) < (n : Int) := by omega
      obtain ⟨b, o, rfl, hbl, hc⟩ := rd_int hR i hlt
      have d1 : wr.cell? ⟨w.heap.size, 1, none⟩ = some (.int .i64 N) := hF.cell? 1
      have hx := HAA.out i hlt
      have h1 : ¬ ((l.getD i 0 : Nat) : Int) < 0 := by omega
      have h2 : ¬ (N : Int) ≤ ((l.getD i 0 : Nat) : Int) := by omega
      clear hF hR hB
      generalize l.getD i 0 = x at *
      go_wp2_with fail
      go_quiet (fail)
      go_wp2_with fail
      go_roundw
      case rel => exact ⟨i + 1, by omega, by go_num, HF'.out.drewN _, HR'.out.drewN _, below_drewN HB'.out _⟩
      case measure => simp [intOf]; omega
    · obtain rfl : i = n := by omega
      have hlt' : ¬ (i : Int) < (i : Int) := by omega
      clear hF hR hB
      go_wp2_with fail
      go_ret
      exact ⟨rfl, HB'.out⟩
end Go.Proofs.Ytpkmknbmjlnkgaa
