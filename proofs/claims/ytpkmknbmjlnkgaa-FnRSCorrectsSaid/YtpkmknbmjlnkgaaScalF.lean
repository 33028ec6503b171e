/- FnRSScales: the walks of the package's doors for a polynomial times an element or a power. -/
import Derived.Test.YtpkmknbmjlnkgaaScalE
import Derived.Test.YtpkmknbmjlnkgaaAppZ
namespace Go.Proofs.Ytpkmknbmjlnkgaa
open Go.RowKit
set_option linter.unusedVariables false

theorem scale_len (p m c : Nat) (l : List Nat) : (scaleBy p m c l).length = l.length := by simp [scaleBy]
theorem shiftl_len (l : List Nat) (d : Nat) : (shiftl l d).length = l.length + d := by simp [shiftl]
theorem tidy_len_le {l : List Nat} {k : Nat} (h1 : 1 ≤ l.length) (h : l.length ≤ k) : (tidy l).length ≤ k := Nat.le_trans ((tidy_cases l).2.2.2 h1) h

set_option maxHeartbeats 1000000 in
theorem implScaled (p m N base c : Nat) (A : Option Addr) (n cp : Nat) (l : List Nat) (w : World) (h : IsGF p m) (hN : Hid (N = 2 ^ m)) (hb : base ≤ 1) (hR : Rd w A n (ints l)) (hn1 : 1 ≤ n) (hn : n ≤ 1000) (hc : c < N) (hA : AllIn m l) (hT : tidy l = l) :
    Calls Try.prog 19 #[fieldVal p N base, .slice A n cp, .int .i64 c] w (ListOk (tidy (scaleBy p m c l)) w) := by
  have hl : l.length = n := by have := hR.1; simpa [ints] using this
  have HL := hid hl
  have HA := hid hA
  have HT := hid hT
  have HC := hid (show (tidy (scaleBy p m c l)).length ≤ 1000000 from tidy_len_le (by rw [scale_len]; omega) (by rw [scale_len]; omega))
  unfold fieldVal
  clear hT hA hl
  go_enter Try.func19, Try.ntmps19
  go_wp2_with fail
  refine (implField p m N base _ h hN hb).mono ?_
  rintro e w1 ⟨g, rfl, hg, hF, hB⟩
  have hB1 : Below w.heap.size w w1 := ((Below.refl _ w).alloc (Nat.le_refl _) (.cells #[.int .i64 p, .int .i64 N, .int .i64 base] 23)).trans (hB.mono (by simp))
  have HF := hid hF
  clear hF hB
  unfold fieldPtr
  go_wp2_with fail
  refine (implPoly _ A n cp l w1 (hR.below hB1) hn1 (by omega)).mono ?_
  rintro e w2 ⟨q, rfl, hq, hP, hB2⟩
  rw [HT.out] at hP
  have hB3 := hB1.trans (hB2.mono hB1.size)
  have HF2 := hid (HF.out.below hB2)
  have mb := multiplyBy q g p m base w1.heap.size c l w2 h HF2.out hP (by rw [HL.out]; omega) (by rw [HL.out]; omega) HA.out HT.out (by rw [← hN.out]; exact hc)
  clear hP hB2 hB1
  go_wp2_with fail
  refine mb.mono ?_
  rintro e w3 ⟨q2, B2, rfl, hP2, hb2⟩
  have hB4 := hB3.trans (hb2.mono hB3.size)
  have il := implList q2 B2 _ _ w3 hP2 HC.out
  generalize hgt : tidy (scaleBy p m c l) = t at *
  unfold fieldPtr at *
  clear hP2 mb hb2 hB3
  go_wp2_with fail
  refine il.mono ?_
  rintro e w4 ⟨A4, c4, rfl, hc4, hR4, hb4⟩
  have hB5 := hB4.trans (hb4.mono hB4.size)
  clear il hb4 hB4
  have HR4 := hid hR4
  clear hR4
  go_wp2_with fail
  go_ret2
  exact ⟨A4, c4, rfl, hc4, HR4.out, hB5⟩

set_option maxHeartbeats 1000000 in
theorem implShifted (p m N base c d : Nat) (A : Option Addr) (n cp : Nat) (l : List Nat) (w : World) (h : IsGF p m) (hN : Hid (N = 2 ^ m)) (hb : base ≤ 1) (hR : Rd w A n (ints l)) (hn1 : 1 ≤ n) (hn : n ≤ 1000) (hc : c < N) (hA : AllIn m l) (hT : tidy l = l) (hd : d ≤ 1000) :
    Calls Try.prog 20 #[fieldVal p N base, .slice A n cp, .int .i64 d, .int .i64 c] w (ListOk (tidy (shiftl (scaleBy p m c l) d)) w) := by
  have hl : l.length = n := by have := hR.1; simpa [ints] using this
  have HL := hid hl
  have HA := hid hA
  have HT := hid hT
  have HC := hid (show (tidy (shiftl (scaleBy p m c l) d)).length ≤ 1000000 from tidy_len_le (by rw [shiftl_len, scale_len]; omega) (by rw [shiftl_len, scale_len]; omega))
  unfold fieldVal
  clear hT hA hl
  go_enter Try.func20, Try.ntmps20
  go_wp2_with fail
  refine (implField p m N base _ h hN hb).mono ?_
  rintro e w1 ⟨g, rfl, hg, hF, hB⟩
  have hB1 : Below w.heap.size w w1 := ((Below.refl _ w).alloc (Nat.le_refl _) (.cells #[.int .i64 p, .int .i64 N, .int .i64 base] 23)).trans (hB.mono (by simp))
  have HF := hid hF
  clear hF hB
  unfold fieldPtr
  go_wp2_with fail
  refine (implPoly _ A n cp l w1 (hR.below hB1) hn1 (by omega)).mono ?_
  rintro e w2 ⟨q, rfl, hq, hP, hB2⟩
  rw [HT.out] at hP
  have hB3 := hB1.trans (hB2.mono hB1.size)
  have HF2 := hid (HF.out.below hB2)
  have mb := mulMono q g p m base w1.heap.size c d l w2 h HF2.out hP (by rw [HL.out]; omega) (by rw [HL.out]; omega) HA.out (by rw [← hN.out]; exact hc) (by omega)
  clear hP hB2 hB1
  go_wp2_with fail
  refine mb.mono ?_
  rintro e w3 ⟨q2, B2, rfl, hP2, hb2⟩
  have hB4 := hB3.trans (hb2.mono hB3.size)
  have il := implList q2 B2 _ _ w3 hP2 HC.out
  generalize hgt : tidy (shiftl (scaleBy p m c l) d) = t at *
  unfold fieldPtr at *
  clear hP2 mb hb2 hB3
  go_wp2_with fail
  refine il.mono ?_
  rintro e w4 ⟨A4, c4, rfl, hc4, hR4, hb4⟩
  have hB5 := hB4.trans (hb4.mono hB4.size)
  clear il hb4 hB4
  have HR4 := hid hR4
  clear hR4
  go_wp2_with fail
  go_ret2
  exact ⟨A4, c4, rfl, hc4, HR4.out, hB5⟩

/-- No list, and false. -/
def NoList (w : World) (e : Ending) (w' : World) : Prop := e = .returned (.tuple #[.slice none 0 0, .bool false]) ∧ Below w.heap.size w w'

set_option maxHeartbeats 1000000 in
theorem implShiftedNeg (p m N base : Nat) (d c : Int) (A : Option Addr) (n cp : Nat) (l : List Nat) (w : World) (h : IsGF p m) (hN : Hid (N = 2 ^ m)) (hb : base ≤ 1) (hR : Rd w A n (ints l)) (hn1 : 1 ≤ n) (hn : n ≤ 1000) (hd : d < 0) :
    Calls Try.prog 20 #[fieldVal p N base, .slice A n cp, .int .i64 d, .int .i64 c] w (NoList w) := by
  have HN := hid hN
  unfold fieldVal
  go_enter Try.func20, Try.ntmps20
  go_wp2_with fail
  refine (implField p m N base _ h hN hb).mono ?_
  rintro e w1 ⟨g, rfl, hg, hF, hB⟩
  have hB1 : Below w.heap.size w w1 := ((Below.refl _ w).alloc (Nat.le_refl _) (.cells #[.int .i64 p, .int .i64 N, .int .i64 base] 23)).trans (hB.mono (by simp))
  clear hF hB
  unfold fieldPtr
  go_wp2_with fail
  refine (implPoly _ A n cp l w1 (hR.below hB1) hn1 (by omega)).mono ?_
  rintro e w2 ⟨q, rfl, hq, hP, hB2⟩
  have hB3 := hB1.trans (hB2.mono hB1.size)
  clear hP hB2 hB1
  go_wp2_with fail
  refine (mulMonoNeg _ _ _ _ hd).mono ?_
  rintro e w3 ⟨a3, rfl, hb3⟩
  have hB4 := hB3.trans (hb3.mono hB3.size)
  clear hB3 hb3
  go_wp2_with fail
  refine (implListErr _ _).mono ?_
  rintro e w4 ⟨rfl, hb4⟩
  have hB5 := hB4.trans (hb4.mono hB4.size)
  clear hB4 hb4
  go_wp2_with fail
  go_ret2
  exact ⟨rfl, hB5⟩

set_option maxHeartbeats 1000000 in
theorem implMonoNeg (p m N base : Nat) (d c : Int) (w : World) (h : IsGF p m) (hN : Hid (N = 2 ^ m)) (hb : base ≤ 1) (hd : d < 0) :
    Calls Try.prog 21 #[fieldVal p N base, .int .i64 d, .int .i64 c] w (NoList w) := by
  unfold fieldVal
  go_enter Try.func21, Try.ntmps21
  go_wp2_with fail
  refine (implField p m N base _ h hN hb).mono ?_
  rintro e w1 ⟨g, rfl, hg, hF, hB⟩
  have hB3 : Below w.heap.size w w1 := ((Below.refl _ w).alloc (Nat.le_refl _) (.cells #[.int .i64 p, .int .i64 N, .int .i64 base] 23)).trans (hB.mono (by simp))
  clear hF hB
  unfold fieldPtr
  go_wp2_with fail
  refine (buildMonoNeg _ _ _ _ hd).mono ?_
  rintro e w3 ⟨a3, rfl, hb3⟩
  have hB4 := hB3.trans (hb3.mono hB3.size)
  clear hB3 hb3
  go_wp2_with fail
  refine (implListErr _ _).mono ?_
  rintro e w4 ⟨rfl, hb4⟩
  have hB5 := hB4.trans (hb4.mono hB4.size)
  clear hB4 hb4
  go_wp2_with fail
  go_ret2
  exact ⟨rfl, hB5⟩

set_option maxHeartbeats 1000000 in
theorem implMono (p m N base c d : Nat) (w : World) (h : IsGF p m) (hN : Hid (N = 2 ^ m)) (hb : base ≤ 1) (hc : c < N) (hc2 : c < 4096) (hd : d ≤ 127) :
    Calls Try.prog 21 #[fieldVal p N base, .int .i64 d, .int .i64 c] w (ListOk (tidy (monoL c d)) w) := by
  have HC := hid (show (tidy (monoL c d)).length ≤ 1000000 from tidy_len_le (by simp [monoL]) (by simp [monoL]; omega))
  unfold fieldVal
  go_enter Try.func21, Try.ntmps21
  go_wp2_with fail
  refine (implField p m N base _ h hN hb).mono ?_
  rintro e w1 ⟨g, rfl, hg, hF, hB⟩
  have hB3 : Below w.heap.size w w1 := ((Below.refl _ w).alloc (Nat.le_refl _) (.cells #[.int .i64 p, .int .i64 N, .int .i64 base] 23)).trans (hB.mono (by simp))
  have bm := buildMono g p m base c d w1 hF hc2 hd
  unfold fieldPtr at *
  clear hF hB
  go_wp2_with fail
  refine bm.mono ?_
  rintro e w3 ⟨q2, B2, rfl, hP2, hb2⟩
  have hB4 := hB3.trans (hb2.mono hB3.size)
  have il := implList q2 B2 _ _ w3 hP2 HC.out
  generalize hgt : tidy (monoL c d) = t at *
  unfold fieldPtr at *
  clear hP2 bm hb2 hB3
  go_wp2_with fail
  refine il.mono ?_
  rintro e w4 ⟨A4, c4, rfl, hc4, hR4, hb4⟩
  have hB5 := hB4.trans (hb4.mono hB4.size)
  clear il hb4 hB4
  have HR4 := hid hR4
  clear hR4
  go_wp2_with fail
  go_ret2
  exact ⟨A4, c4, rfl, hc4, HR4.out, hB5⟩

set_option maxHeartbeats 1000000 in
theorem rsShifted (A : Option Addr) (n c d : Nat) (l : List Nat) (w : World) (hR : Rd w A n (ints l)) (hn : 1 ≤ n) (hn2 : n ≤ 10000) (hd : d ≤ 10000) :
    Calls Try.prog 23 #[.slice A n c, .int .i64 d] w (ListOut (tidy (shiftl l d)) w) := by
  obtain ⟨i0, hi, hz0, hz1, hz2⟩ := info_parts info3
  have hl : l.length = n := by have := hR.1; simpa [ints] using this
  have HL := hid hl
  clear hl
  go_enter Try.func23, Try.ntmps23
  go_wp2_with (at_builtin; refine wpList_app _ rfl _ _ 30 rfl w.heap.size 3 i0 _ 8 Try.underlying30 hi hz0 hz1 hz2 rfl (.slice (some ⟨w.heap.size, 0, none⟩) 0 0) [] rfl (Own.lit0 _ _ (Nat.le_refl _)) A n c (ints l) rfl (hR.alloc _) (ints_one _) (by simp [maxLen]; omega) (by simp; omega) (by simp) ?_)
  intro v1 w2 hO hg _
  have hB : Below w.heap.size w w2 := ((Below.refl _ w).alloc (Nat.le_refl _) (.cells #[] 3)).grown hg (by simp) (fun j hj => by simp [Value.ownBlock] at hj; omega)
  have HO := hid hO
  have hlen : ([] ++ ints l).length = n := by simp [ints_length, HL.out]
  clear hO hg
  go_wp2_with (refine wpList_appz _ rfl _ _ 30 3 rfl w.heap.size 3 i0 _ .i64 8 Try.underlying30 Try.underlying3 hi hz0 hz1 hz2 rfl rfl v1 ([] ++ ints l) rfl HO.out d rfl (by rw [hlen]; omega) (by rw [hlen]; omega) hB.size ?_)
  intro v2 w3 hO2 hg2 _
  have hB2 := below_app hB HO.out hg2 (Nat.le_refl _) hB.size
  have e2 : ints l ++ List.replicate d (Value.int .i64 0) = ints (shiftl l d) := by simp [ints, shiftl]
  rw [e2] at hO2
  obtain ⟨A', c', hv, hR', hc'⟩ := hO2.form
  have hl2 : (ints (shiftl l d)).length = n + d := by rw [ints_length, shiftl_len, HL.out]
  rw [hl2] at hv hR' hc'
  subst hv
  have HRR := hid hR'
  clear hO2 hg2 hl2 e2 hR' HO hB hR
  go_wp2_with fail
  refine (rsTidy A' (n + d) c' (shiftl l d) w3 HRR.out (by omega) (by omega) hc').mono ?_
  rintro e w4 ⟨A2, c2, rfl, hc2, hR2, hA2, hB3⟩
  go_wp2_with fail
  go_ret
  exact ⟨A2, c2, rfl, hc2, hR2, fun a e => Nat.le_trans hB2.size (hA2 a e), hB2.trans (hB3.mono hB2.size)⟩
end Go.Proofs.Ytpkmknbmjlnkgaa
