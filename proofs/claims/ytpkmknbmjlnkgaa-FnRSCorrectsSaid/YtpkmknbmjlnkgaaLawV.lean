/- FnRSValues: the walk of the law. -/
import Derived.Test.YtpkmknbmjlnkgaaValW
import Derived.Test.YtpkmknbmjlnkgaaLawT
namespace Go.Proofs.Ytpkmknbmjlnkgaa
open Go.RowKit
set_option linter.unusedVariables false

theorem tidy_cases : ∀ l : List Nat, 1 ≤ (tidy l).length ∧ (∀ x ∈ tidy l, x = 0 ∨ x ∈ l) ∧ ((tidy l).getD 0 0 ≠ 0 ∨ (tidy l).length = 1) ∧ (1 ≤ l.length → (tidy l).length ≤ l.length)
  | [] => ⟨by simp [tidy], by simp [tidy], by simp [tidy], by simp⟩
  | [a] => ⟨by simp [tidy], by simp [tidy], by simp [tidy], by simp [tidy]⟩
  | 0 :: b :: l => by
    obtain ⟨h1, h2, h3, h4⟩ := tidy_cases (b :: l)
    refine ⟨h1, fun x hx => ?_, h3, fun _ => ?_⟩
    · rcases h2 x hx with h | h
      · exact .inl h
      · exact .inr (List.mem_cons_of_mem _ h)
    · have := h4 (by simp)
      simp only [tidy, List.length_cons] at *
      omega
  | (a + 1) :: b :: l => ⟨by simp [tidy], fun x hx => .inr hx, by simp [tidy], by simp [tidy]⟩
theorem tidy_tidy (l : List Nat) : tidy (tidy l) = tidy l := by
  obtain ⟨h1, _, h3, _⟩ := tidy_cases l
  exact tidy_first h3 h1
theorem tidy_in {p m : Nat} (h : IsGF p m) {l : List Nat} (hl : AllIn m l) : AllIn m (tidy l) := by
  intro x hx
  rcases (tidy_cases l).2.1 x hx with h0 | h0
  · subst h0; exact Nat.two_pow_pos m
  · exact hl x h0
theorem elems_in {m N : Nat} (hN : N = 2 ^ m) (h0 : 0 < N) (zs : List Int) (k : Nat) : AllIn m (elems N zs k) := by
  intro x hx
  obtain ⟨z, _, rfl⟩ := List.mem_map.1 hx
  rw [← hN]
  exact elemOf_lt N z h0

set_option maxHeartbeats 1000000 in
theorem polyAt (p m N base x : Nat) (A : Option Addr) (n c : Nat) (l : List Nat) (w : World) (h : IsGF p m) (hN : Hid (N = 2 ^ m)) (hb : base ≤ 1) (hR : Rd w A n (ints l)) (hn1 : 1 ≤ n) (hn : n ≤ 1000000) (hx : x < N) (hA : AllIn m l) :
    Calls Try.prog 16 #[fieldVal p N base, .slice A n c, .int .i64 x] w (ValOut (.tuple #[.int .i64 (valAt p m x (tidy l) : Nat), .bool true]) w) := by
  have hl : l.length = n := by have := hR.1; simpa [ints] using this
  obtain ⟨t1, _, _, t4⟩ := tidy_cases l
  have t4' := t4 (by omega)
  have hT := hid (tidy_in h hA)
  unfold fieldVal
  go_enter Try.func16, Try.ntmps16
  go_wp2_with fail
  refine (implField p m N base _ h hN hb).mono ?_
  rintro e w1 ⟨g, rfl, hg, hF, hB⟩
  have hB1 : Below w.heap.size w w1 := ((Below.refl _ w).alloc (Nat.le_refl _) (.cells #[.int .i64 p, .int .i64 N, .int .i64 base] 23)).trans (hB.mono (by simp))
  have HF := hid hF
  clear hF hB
  unfold fieldPtr
  go_wp2_with fail
  refine (implPoly _ A n c l w1 (hR.below hB1) hn1 hn).mono ?_
  rintro e w2 ⟨q, rfl, hq, hP, hB2⟩
  have hB3 := hB1.trans (hB2.mono hB1.size)
  have HP := hid hP
  have hFlt : ∃ ge gl qz qo, Arr w1 g 78 [.slice (some ⟨ge, 0, none⟩) (2 ^ m) (2 ^ m), .slice (some ⟨gl, 0, none⟩) (2 ^ m) (2 ^ m), .pointer (some ⟨qz, 0, none⟩), .pointer (some ⟨qo, 0, none⟩), .int .i64 (2 ^ m : Nat), .int .i64 p, .int .i64 base] ∧ Arr w1 ge 3 (ints (expTo p m (2 ^ m))) ∧ Arr w1 gl 3 (ints (logTo p m (2 ^ m - 1))) ∧ IsPoly w1 (g + 1) qz (fieldPtr g) [0] ∧ IsPoly w1 (g + 1) qo (fieldPtr g) [1] := HF.out
  have HF2 := hid (show IsField w2 g p m base by
    obtain ⟨ge, gl, qz, qo, a1, a2, a3, a4, a5⟩ := hFlt
    exact ⟨ge, gl, qz, qo, a1.below hB2 a1.lt, a2.below hB2 a2.lt, a3.below hB2 a3.lt, a4.below hB2, a5.below hB2⟩)
  clear hP hFlt HF hB2 hB1
  go_wp2_with fail
  refine (evaluateAt q g p m base w1.heap.size x (tidy l) w2 h HF2.out HP.out t1 (by omega) (by rw [← hN.out]; exact hx) hT.out).mono ?_
  rintro e w3 ⟨rfl, nq, rfl⟩
  go_wp2_with fail
  go_ret2
  exact ⟨rfl, below_drewN hB3 _⟩

set_option maxHeartbeats 4000000 in
theorem values_core (w : World) (n : Nat) (hn : n ≤ 255) (A : Option Addr) (len cap : Nat) (zs : List Int) (hS : SlIn w A len cap (zs.map (Value.int .i64))) (hz : ∀ j, -9223372036854775808 ≤ zs.getD j 0 ∧ zs.getD j 0 ≤ 9223372036854775807) (x : Int) (hx0 : -9223372036854775808 ≤ x) (hx1 : x ≤ 9223372036854775807) :
    Calls Try.prog 5 #[.int .u8 n, .slice A len cap, .int .i64 x] w fun e w' => e = .returned (.bool true) ∧ Below w.heap.size w w' := by
  have hR := hS.rd
  obtain ⟨_, _, hcm, _⟩ := hS
  unfold maxLen at hcm
  by_cases hbig : (2147483647 : Int) < len
  · go_enter Try.func5, Try.ntmps5
    go_wp2
    go_ret
    exact ⟨rfl, Below.refl _ _⟩
  have h := fGF (n % 6)
  have hB1 := fB_le (n % 6)
  have hfld := fun W => rsField n hn W
  generalize fP (n % 6) = p at *
  generalize fB (n % 6) = base at *
  generalize fM (n % 6) = m at *
  obtain ⟨N, hN⟩ : ∃ N, N = 2 ^ m := ⟨_, rfl⟩
  rw [← hN] at hfld
  have HN := hid hN
  have hN1 : N ≤ 4096 := by rw [hN]; exact Nat.pow_le_pow_right (n := 2) (by omega) h.small
  have hN0 : 4 ≤ N := by rw [hN]; exact Nat.pow_le_pow_right (n := 2) (by omega) h.pos
  have hin := elems_in hN (by omega) zs (min len 40)
  have hel : (elems N zs (min len 40)).length ≤ 40 := by unfold elems; rw [List.length_map, List.length_take]; omega
  have rp : ∀ W, Rd W A len (zs.map (Value.int .i64)) → Calls Try.prog 15 #[fieldVal p N base, .slice A len cap, .int .i64 40] W (ListOut (tidy (elems N zs (min len 40))) W) := fun W hR => rsPoly p N base A len cap zs 40 W (by omega) (by omega) hR (by omega) (by omega) hz
  generalize elems N zs (min len 40) = l0 at *
  obtain ⟨t1, _, _, t4⟩ := tidy_cases l0
  have htl : (tidy l0).length ≤ 40 := by
    rcases Nat.eq_zero_or_pos l0.length with e0 | e0
    · rw [List.eq_nil_of_length_eq_zero e0]; decide
    · have := t4 e0; omega
  have hT := tidy_in h hin
  have hTT := tidy_tidy l0
  generalize tidy l0 = l at *
  have rx := fun W => rsElement p N base x W (by omega) (by omega) hx0 hx1
  have hxN := elemOf_lt N x (by omega)
  generalize elemOf N x = y at *
  have HR := hid hR
  have HT := hid hT
  have HTT := hid hTT
  have H := hid h
  have Hrp := hid rp
  clear hR hT hin hel t4 hTT h hN rp
  unfold fieldVal at *
  go_enter Try.func5, Try.ntmps5
  go_wp2_with fail
  refine (hfld _).mono ?_
  rintro e w1 ⟨rfl, hBl⟩
  clear hfld
  go_wp2_with fail
  have A0 := Arr.of_new w1 23 #[.int .i64 p, .int .i64 N, .int .i64 base]
  have B0 : Below w.heap.size w (w1.alloc (.cells #[.int .i64 p, .int .i64 N, .int .i64 base] 23)) := hBl.alloc hBl.size _
  have d0 := A0.cell? 0
  have d1 := A0.cell? 1
  have d2 := A0.cell? 2
  have hlt := A0.lt
  try simp only at d0 d1 d2
  generalize w1.heap.size = g at *
  generalize w1.alloc (.cells #[.int .i64 p, .int .i64 N, .int .i64 base] 23) = w2 at *
  clear A0 hBl
  go_region_held3 (fun w' => w'.cell? ⟨g, 0, none⟩ = some (.int .i64 p) ∧ w'.cell? ⟨g, 1, none⟩ = some (.int .i64 N) ∧ w'.cell? ⟨g, 2, none⟩ = some (.int .i64 base) ∧ g < w'.heap.size ∧ Below w.heap.size w w') (first | exact ⟨d0, d1, d2, hlt, B0.drew⟩ | exact keepF (by assumption) hb5 | exact keepF (by assumption) hb6)
    (first
      | (go_at_call 15; ((with_reducible refine (Hrp.out _ ?_).mono ?_); (first | exact (HR.out.below B0).drew | exact ((HR.out.below B0).drew).below hb6); rintro e w5 ⟨A1, c1, rfl, hc1, hR1, hA1, hb5⟩))
      | (go_at_call 11; ((with_reducible refine (rx _).mono ?_); rintro e w6 ⟨rfl, hb6⟩)))
  have S6 : w6.cell? ⟨g, 0, none⟩ = some (.int .i64 p) ∧ w6.cell? ⟨g, 1, none⟩ = some (.int .i64 N) ∧ w6.cell? ⟨g, 2, none⟩ = some (.int .i64 base) ∧ g < w6.heap.size ∧ Below w.heap.size w w6 := by assumption
  have HR6 := hid (hR1.below hb6)
  clear hR1 d0 d1 d2 hb5 hb6 hA1
  go_wp2_with fail
  refine (polyAt p m N base y A1 l.length c1 l w6 H.out HN hB1 HR6.out t1 (by omega) hxN HT.out).mono ?_
  rintro e w7 ⟨rfl, hb7⟩
  rw [HTT.out]
  have S7 := keepF S6 hb7
  have HR7 := hid (HR6.out.below hb7)
  clear S6 HR6 hb7
  generalize hY : valAt p m y l = Y at *
  obtain ⟨d0, d1, d2, hlt7, hB7⟩ := S7
  go_wp2_with fail
  refine (rsAt p m N base y A1 l.length c1 l w7 H.out HN HR7.out (by omega) hxN HT.out).mono ?_
  rintro e w8 ⟨rfl, hb8⟩
  rw [hY]
  have hB8 := hB7.trans (hb8.mono hB7.size)
  go_wp2_with fail
  go_ret
  exact ⟨by simp, hB8⟩

theorem FnRSValues_walk (w : World) (n : Int) (hn : (Lit.int .u8 n).wf = true) (A : Option Addr) (len cap : Nat) (zs : List Int) (hS : SlIn w A len cap (zs.map (Value.int .i64))) (hwf : ∀ n ∈ zs, (Lit.int .i64 n).wf = true) (x : Int) (hx : (Lit.int .i64 x).wf = true) :
    Calls Try.prog 5 #[.int .u8 n, .slice A len cap, .int .i64 x] w fun e w' => e = .returned (.bool true) ∧ Below w.heap.size w w' := by
  have h0 := wf_u8 hn
  have h1 := wf_i64 hx
  obtain ⟨k, rfl⟩ := Int.eq_ofNat_of_zero_le h0.1
  refine values_core w k (by omega) A len cap zs hS (fun j => ?_) x h1.1 h1.2
  by_cases hj : j < zs.length
  · exact wf_i64 (hwf (zs.getD j 0) (by rw [List.getD_eq_getElem?_getD, List.getElem?_eq_getElem hj]; simp))
  · rw [List.getD_eq_getElem?_getD, List.getElem?_eq_none (by omega)]; simp
end Go.Proofs.Ytpkmknbmjlnkgaa
