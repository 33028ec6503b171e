/- FnRSRefuses: the walk of the law. -/
import Derived.Test.YtpkmknbmjlnkgaaEncW
import Derived.Test.YtpkmknbmjlnkgaaLawV
namespace Go.Proofs.Ytpkmknbmjlnkgaa
open Go.RowKit
set_option linter.unusedVariables false

/-- How many words there are at most, and how many of them correct errors. -/
def mostN (N : Nat) : Nat := min (N - 1) 255
def manyN (N e : Nat) : Nat := 2 + e % min 40 (mostN N - 2)

/-- Words, how many others there are, and whether both can be had. -/
def WordsOut (l : List Nat) (many : Nat) (w : World) (e : Ending) (w' : World) : Prop :=
  ∃ A c, e = .returned (.tuple #[.slice A l.length c, .int .i64 many, .bool (decide (0 < l.length))]) ∧ l.length ≤ c ∧ Rd w' A l.length (ints l) ∧ Below w.heap.size w w'

set_option maxHeartbeats 4000000 in
theorem rsWords (p N base e : Nat) (A : Option Addr) (n c : Nat) (zs : List Int) (w : World) (hN : N = 16 ∨ N = 64 ∨ N = 256 ∨ N = 1024 ∨ N = 4096) (he : e ≤ 255) (hR : Rd w A n (zs.map (Value.int .i64))) (hn : n ≤ 2147483647)
    (hz : ∀ j, -9223372036854775808 ≤ zs.getD j 0 ∧ zs.getD j 0 ≤ 9223372036854775807) :
    Calls Try.prog 24 #[fieldVal p N base, .slice A n c, .int .u8 e] w (WordsOut (elems N zs (min n (mostN N - manyN N e))) (manyN N e) w) := by
  have hl : zs.length = n := by have := hR.1; simpa using this
  have hlen := elems_length N zs (min n (mostN N - manyN N e)) (by omega)
  have hre := fun W hR => rsElements p N base A n c zs (mostN N - manyN N e) W (by omega) (by omega) hR hn (by unfold mostN; omega) hz
  generalize elems N zs (min n (mostN N - manyN N e)) = l at *
  have hl2 : l.length ≤ 255 := by unfold mostN at hlen; omega
  have b0 : Below w.heap.size w (w.alloc (.cells #[.int .i64 p, .int .i64 N, .int .i64 base] 23)) := (Below.refl _ _).alloc (Nat.le_refl _) _
  have HB0 := hid b0
  have HRE := hid hre
  have HR := hid (hR.alloc (.cells #[.int .i64 p, .int .i64 N, .int .i64 base] 23))
  clear hl hlen hz hre b0 hR
  rcases hN with rfl | rfl | rfl | rfl | rfl
  · have hm1 : mostN 16 = 15 := rfl
    have hm2 : manyN 16 e = 2 + e % 13 := rfl
    have e1 : (15 : Int) - (2 + (e : Int) % 13) = ((mostN 16 - manyN 16 e : Nat) : Int) := by rw [hm1, hm2]; omega
    have e2 : (2 : Int) + (e : Int) % 13 = ((manyN 16 e : Nat) : Int) := by rw [hm2]; omega
    have re : ∀ W : World, Rd W A n (zs.map (Value.int .i64)) → Calls Try.prog 33 #[fieldVal p 16 base, .slice A n c, .int .i64 ((15 : Int) - (2 + (e : Int) % 13))] W (ListOut l W) := by rw [e1]; exact HRE.out
    have RE := hid re
    have E2 := hid e2
    clear hm1 hm2 e1 e2 re
    unfold fieldVal at *
    go_enter Try.func24, Try.ntmps24
    go_wp2_with fail
    refine (RE.out _ HR.out).mono ?_
    rintro e' w1 ⟨A', c', rfl, hc', hR', _, hb1⟩
    have HB1 := hid (HB0.out.trans (hb1.mono HB0.out.size))
    have HR1 := hid hR'
    clear hR' hb1
    by_cases h0 : 0 < l.length
    · have h0' : (0 : Int) < (l.length : Int) := by omega
      have HD := hid (show decide (0 < l.length) = true by simpa using h0)
      clear h0
      go_wp2_with fail
      go_ret3
      exact ⟨A', c', by rw [HD.out, E2.out]; rfl, hc', HR1.out, HB1.out⟩
    · have h0' : ¬ (0 : Int) < (l.length : Int) := by omega
      have HD := hid (show decide (0 < l.length) = false by simpa using h0)
      clear h0
      go_wp2_with fail
      go_ret3
      exact ⟨A', c', by rw [HD.out, E2.out]; rfl, hc', HR1.out, HB1.out⟩
  · have hm1 : mostN 64 = 63 := rfl
    have hm2 : manyN 64 e = 2 + e % 40 := rfl
    have e1 : (63 : Int) - (2 + (e : Int) % 40) = ((mostN 64 - manyN 64 e : Nat) : Int) := by rw [hm1, hm2]; omega
    have e2 : (2 : Int) + (e : Int) % 40 = ((manyN 64 e : Nat) : Int) := by rw [hm2]; omega
    have re : ∀ W : World, Rd W A n (zs.map (Value.int .i64)) → Calls Try.prog 33 #[fieldVal p 64 base, .slice A n c, .int .i64 ((63 : Int) - (2 + (e : Int) % 40))] W (ListOut l W) := by rw [e1]; exact HRE.out
    have RE := hid re
    have E2 := hid e2
    clear hm1 hm2 e1 e2 re
    unfold fieldVal at *
    go_enter Try.func24, Try.ntmps24
    go_wp2_with fail
    refine (RE.out _ HR.out).mono ?_
    rintro e' w1 ⟨A', c', rfl, hc', hR', _, hb1⟩
    have HB1 := hid (HB0.out.trans (hb1.mono HB0.out.size))
    have HR1 := hid hR'
    clear hR' hb1
    by_cases h0 : 0 < l.length
    · have h0' : (0 : Int) < (l.length : Int) := by omega
      have HD := hid (show decide (0 < l.length) = true by simpa using h0)
      clear h0
      go_wp2_with fail
      go_ret3
      exact ⟨A', c', by rw [HD.out, E2.out]; rfl, hc', HR1.out, HB1.out⟩
    · have h0' : ¬ (0 : Int) < (l.length : Int) := by omega
      have HD := hid (show decide (0 < l.length) = false by simpa using h0)
      clear h0
      go_wp2_with fail
      go_ret3
      exact ⟨A', c', by rw [HD.out, E2.out]; rfl, hc', HR1.out, HB1.out⟩
  · have hm1 : mostN 256 = 255 := rfl
    have hm2 : manyN 256 e = 2 + e % 40 := rfl
    have e1 : (255 : Int) - (2 + (e : Int) % 40) = ((mostN 256 - manyN 256 e : Nat) : Int) := by rw [hm1, hm2]; omega
    have e2 : (2 : Int) + (e : Int) % 40 = ((manyN 256 e : Nat) : Int) := by rw [hm2]; omega
    have re : ∀ W : World, Rd W A n (zs.map (Value.int .i64)) → Calls Try.prog 33 #[fieldVal p 256 base, .slice A n c, .int .i64 ((255 : Int) - (2 + (e : Int) % 40))] W (ListOut l W) := by rw [e1]; exact HRE.out
    have RE := hid re
    have E2 := hid e2
    clear hm1 hm2 e1 e2 re
    unfold fieldVal at *
    go_enter Try.func24, Try.ntmps24
    go_wp2_with fail
    refine (RE.out _ HR.out).mono ?_
    rintro e' w1 ⟨A', c', rfl, hc', hR', _, hb1⟩
    have HB1 := hid (HB0.out.trans (hb1.mono HB0.out.size))
    have HR1 := hid hR'
    clear hR' hb1
    by_cases h0 : 0 < l.length
    · have h0' : (0 : Int) < (l.length : Int) := by omega
      have HD := hid (show decide (0 < l.length) = true by simpa using h0)
      clear h0
      go_wp2_with fail
      go_ret3
      exact ⟨A', c', by rw [HD.out, E2.out]; rfl, hc', HR1.out, HB1.out⟩
    · have h0' : ¬ (0 : Int) < (l.length : Int) := by omega
      have HD := hid (show decide (0 < l.length) = false by simpa using h0)
      clear h0
      go_wp2_with fail
      go_ret3
      exact ⟨A', c', by rw [HD.out, E2.out]; rfl, hc', HR1.out, HB1.out⟩
  · have hm1 : mostN 1024 = 255 := rfl
    have hm2 : manyN 1024 e = 2 + e % 40 := rfl
    have e1 : (255 : Int) - (2 + (e : Int) % 40) = ((mostN 1024 - manyN 1024 e : Nat) : Int) := by rw [hm1, hm2]; omega
    have e2 : (2 : Int) + (e : Int) % 40 = ((manyN 1024 e : Nat) : Int) := by rw [hm2]; omega
    have re : ∀ W : World, Rd W A n (zs.map (Value.int .i64)) → Calls Try.prog 33 #[fieldVal p 1024 base, .slice A n c, .int .i64 ((255 : Int) - (2 + (e : Int) % 40))] W (ListOut l W) := by rw [e1]; exact HRE.out
    have RE := hid re
    have E2 := hid e2
    clear hm1 hm2 e1 e2 re
    unfold fieldVal at *
    go_enter Try.func24, Try.ntmps24
    go_wp2_with fail
    refine (RE.out _ HR.out).mono ?_
    rintro e' w1 ⟨A', c', rfl, hc', hR', _, hb1⟩
    have HB1 := hid (HB0.out.trans (hb1.mono HB0.out.size))
    have HR1 := hid hR'
    clear hR' hb1
    by_cases h0 : 0 < l.length
    · have h0' : (0 : Int) < (l.length : Int) := by omega
      have HD := hid (show decide (0 < l.length) = true by simpa using h0)
      clear h0
      go_wp2_with fail
      go_ret3
      exact ⟨A', c', by rw [HD.out, E2.out]; rfl, hc', HR1.out, HB1.out⟩
    · have h0' : ¬ (0 : Int) < (l.length : Int) := by omega
      have HD := hid (show decide (0 < l.length) = false by simpa using h0)
      clear h0
      go_wp2_with fail
      go_ret3
      exact ⟨A', c', by rw [HD.out, E2.out]; rfl, hc', HR1.out, HB1.out⟩
  · have hm1 : mostN 4096 = 255 := rfl
    have hm2 : manyN 4096 e = 2 + e % 40 := rfl
    have e1 : (255 : Int) - (2 + (e : Int) % 40) = ((mostN 4096 - manyN 4096 e : Nat) : Int) := by rw [hm1, hm2]; omega
    have e2 : (2 : Int) + (e : Int) % 40 = ((manyN 4096 e : Nat) : Int) := by rw [hm2]; omega
    have re : ∀ W : World, Rd W A n (zs.map (Value.int .i64)) → Calls Try.prog 33 #[fieldVal p 4096 base, .slice A n c, .int .i64 ((255 : Int) - (2 + (e : Int) % 40))] W (ListOut l W) := by rw [e1]; exact HRE.out
    have RE := hid re
    have E2 := hid e2
    clear hm1 hm2 e1 e2 re
    unfold fieldVal at *
    go_enter Try.func24, Try.ntmps24
    go_wp2_with fail
    refine (RE.out _ HR.out).mono ?_
    rintro e' w1 ⟨A', c', rfl, hc', hR', _, hb1⟩
    have HB1 := hid (HB0.out.trans (hb1.mono HB0.out.size))
    have HR1 := hid hR'
    clear hR' hb1
    by_cases h0 : 0 < l.length
    · have h0' : (0 : Int) < (l.length : Int) := by omega
      have HD := hid (show decide (0 < l.length) = true by simpa using h0)
      clear h0
      go_wp2_with fail
      go_ret3
      exact ⟨A', c', by rw [HD.out, E2.out]; rfl, hc', HR1.out, HB1.out⟩
    · have h0' : ¬ (0 : Int) < (l.length : Int) := by omega
      have HD := hid (show decide (0 < l.length) = false by simpa using h0)
      clear h0
      go_wp2_with fail
      go_ret3
      exact ⟨A', c', by rw [HD.out, E2.out]; rfl, hc', HR1.out, HB1.out⟩

theorem fN (k : Nat) : 2 ^ fM k = 16 ∨ 2 ^ fM k = 64 ∨ 2 ^ fM k = 256 ∨ 2 ^ fM k = 1024 ∨ 2 ^ fM k = 4096 := by
  unfold fM
  split <;> simp

theorem many_bd (N e : Nat) (hN : N = 16 ∨ N = 64 ∨ N = 256 ∨ N = 1024 ∨ N = 4096) : manyN N e ≤ 41 ∧ manyN N e + 1 ≤ N := by
  rcases hN with rfl | rfl | rfl | rfl | rfl
  · show 2 + e % 13 ≤ 41 ∧ 2 + e % 13 + 1 ≤ 16; omega
  · show 2 + e % 40 ≤ 41 ∧ 2 + e % 40 + 1 ≤ 64; omega
  · show 2 + e % 40 ≤ 41 ∧ 2 + e % 40 + 1 ≤ 256; omega
  · show 2 + e % 40 ≤ 41 ∧ 2 + e % 40 + 1 ≤ 1024; omega
  · show 2 + e % 40 ≤ 41 ∧ 2 + e % 40 + 1 ≤ 4096; omega
theorem bool_tt : (true == true) = true := rfl

set_option maxRecDepth 20000 in
set_option maxHeartbeats 4000000 in
theorem refuses_core (w : World) (n : Nat) (hn : n ≤ 255) (A : Option Addr) (len cap : Nat) (zs : List Int) (hS : SlIn w A len cap (zs.map (Value.int .i64))) (hz : ∀ j, -9223372036854775808 ≤ zs.getD j 0 ∧ zs.getD j 0 ≤ 9223372036854775807) (ec : Nat) (hec : ec ≤ 255) :
    Calls Try.prog 7 #[.int .u8 n, .slice A len cap, .int .u8 ec] w fun e w' => e = .returned (.bool true) ∧ Below w.heap.size w w' := by
  have hR := hS.rd
  obtain ⟨_, _, hcm, _⟩ := hS
  unfold maxLen at hcm
  by_cases hbig : (2147483647 : Int) < len
  · go_enter Try.func7, Try.ntmps7
    go_wp2
    go_ret
    exact ⟨rfl, Below.refl _ _⟩
  have h := fGF (n % 6)
  have hB1 := fB_le (n % 6)
  have hNN := fN (n % 6)
  have hfld := fun W => rsField n hn W
  generalize fP (n % 6) = p at *
  generalize fB (n % 6) = base at *
  generalize fM (n % 6) = m at *
  obtain ⟨N, hN⟩ : ∃ N, N = 2 ^ m := ⟨_, rfl⟩
  rw [← hN] at hfld hNN
  have HN := hid hN
  have hin := elems_in hN (by omega) zs (min len (mostN N - manyN N ec))
  have hel : (elems N zs (min len (mostN N - manyN N ec))).length ≤ 255 := by unfold elems mostN; rw [List.length_map, List.length_take]; omega
  have hm1 : 2 ≤ manyN N ec := by unfold manyN; omega
  have hm2 : manyN N ec ≤ 41 ∧ manyN N ec + base ≤ N := by have := many_bd N ec hNN; omega
  have rw_ := fun W h => rsWords p N base ec A len cap zs W hNN hec h (by omega) hz
  generalize elems N zs (min len (mostN N - manyN N ec)) = l at *
  generalize manyN N ec = many at *
  have e0 : ∀ (W : World) (A1 : Option Addr) (c1 : Nat), Rd W A1 l.length (ints l) → Calls Try.prog 25 #[fieldVal p N base, .slice A1 l.length c1, .int .i64 0] W (NoList W) := fun W A1 c1 hr => implEncode0 p m N base A1 l.length c1 l W h HN hB1 hr (by omega)
  have e1 : ∀ W : World, Calls Try.prog 25 #[fieldVal p N base, .slice none 0 0, .int .i64 many] W (NoList W) := fun W => implEncodeNone p m N base many none 0 0 [] W h HN hB1 Rd.nil (by omega) rfl (by omega) (by omega)
  have e2 : ∀ (W : World) (A1 : Option Addr) (c1 : Nat), Rd W A1 l.length (ints l) → l.length = 0 → Calls Try.prog 25 #[fieldVal p N base, .slice A1 l.length c1, .int .i64 many] W (NoList W) := fun W A1 c1 hr h0 => implEncodeNone p m N base many A1 l.length c1 l W h HN hB1 hr (by omega) h0 (by omega) (by omega)
  have e3 : ∀ (W : World) (A1 : Option Addr) (c1 : Nat), Rd W A1 l.length (ints l) → 1 ≤ l.length → Calls Try.prog 25 #[fieldVal p N base, .slice A1 l.length c1, .int .i64 many] W (SomeList W) := fun W A1 c1 hr h0 => implEncodeOk p m N base many A1 l.length c1 l W h HN hB1 hr (by omega) h0 hin (by omega) (by omega) (by rw [← hN]; exact hm2.2)
  have E0 := hid e0
  have E1 := hid e1
  have E2 := hid e2
  have E3 := hid e3
  have HRW := hid rw_
  have HR := hid hR
  clear hin e0 e1 e2 e3 rw_ h hN hNN hR hz
  unfold fieldVal at *
  go_enter Try.func7, Try.ntmps7
  go_wp2_with fail
  refine (hfld _).mono ?_
  rintro e w1 ⟨rfl, hBl⟩
  clear hfld
  go_wp2_with fail
  have A0 := Arr.of_new w1 23 #[.int .i64 p, .int .i64 N, .int .i64 base]
  have B0 : Below w.heap.size w (w1.alloc (.cells #[.int .i64 p, .int .i64 N, .int .i64 base] 23)) := hBl.alloc hBl.size _
  have d0 := A0.cell? 0
  have d1 := A0.cell? 1
  have d2 := A0.cell? 2
  have hlt := A0.lt
  try simp only at d0 d1 d2
  generalize w1.heap.size = g at *
  generalize w1.alloc (.cells #[.int .i64 p, .int .i64 N, .int .i64 base] 23) = w2 at *
  clear A0 hBl
  refine (HRW.out w2 (HR.out.below B0)).mono ?_
  rintro e w3 ⟨A3, c3, rfl, hc3, hR3, hb3⟩
  have S3 := keepF ⟨d0, d1, d2, hlt, B0⟩ hb3
  have HR3 := hid hR3
  clear hR3 hb3 d0 d1 d2 hlt B0
  obtain ⟨d0, d1, d2, hlt, B0⟩ := S3
  by_cases h0 : 1 ≤ l.length
  · have hd : decide (0 < l.length) = true := decide_eq_true (by omega)
    rw [hd]
    go_wp2_with fail
    refine (E0.out _ _ _ HR3.out).mono ?_
    rintro e w4 ⟨rfl, hb4⟩
    have S4 := keepF ⟨d0, d1, d2, hlt, B0⟩ hb4
    have HR4 := hid (HR3.out.below hb4)
    clear hb4 d0 d1 d2 hlt B0
    obtain ⟨d0, d1, d2, hlt, B0⟩ := S4
    go_wp2_with fail
    refine (E1.out _).mono ?_
    rintro e w5 ⟨rfl, hb5⟩
    have S5 := keepF ⟨d0, d1, d2, hlt, B0⟩ hb5
    have HR5 := hid (HR4.out.below hb5)
    clear hb5 d0 d1 d2 hlt B0
    obtain ⟨d0, d1, d2, hlt, B0⟩ := S5
    go_wp2_with fail
    refine (E3.out _ _ _ HR5.out h0).mono ?_
    rintro e w6 ⟨v6, rfl, hb6⟩
    have S6 := keepF ⟨d0, d1, d2, hlt, B0⟩ hb6
    have HB6 := hid S6.2.2.2.2
    clear S6 hb6 d0 d1 d2 hlt B0
    go_wp2_with fail
    go_ret
    exact ⟨rfl, HB6.out⟩
  · have hd : decide (0 < l.length) = false := decide_eq_false (by omega)
    have hl0 : l.length = 0 := by omega
    rw [hd]
    have HL0 := hid hl0
    clear hl0
    go_wp2_with fail
    refine (E0.out _ _ _ HR3.out).mono ?_
    rintro e w4 ⟨rfl, hb4⟩
    have S4 := keepF ⟨d0, d1, d2, hlt, B0⟩ hb4
    have HR4 := hid (HR3.out.below hb4)
    clear hb4 d0 d1 d2 hlt B0
    obtain ⟨d0, d1, d2, hlt, B0⟩ := S4
    go_wp2_with fail
    refine (E1.out _).mono ?_
    rintro e w5 ⟨rfl, hb5⟩
    have S5 := keepF ⟨d0, d1, d2, hlt, B0⟩ hb5
    have HR5 := hid (HR4.out.below hb5)
    clear hb5 d0 d1 d2 hlt B0
    obtain ⟨d0, d1, d2, hlt, B0⟩ := S5
    go_wp2_with fail
    refine (E2.out _ _ _ HR5.out HL0.out).mono ?_
    rintro e w6 ⟨rfl, hb6⟩
    have S6 := keepF ⟨d0, d1, d2, hlt, B0⟩ hb6
    have HB6 := hid S6.2.2.2.2
    clear S6 hb6 d0 d1 d2 hlt B0
    go_wp2_with fail
    go_ret
    exact ⟨rfl, HB6.out⟩

theorem FnRSRefuses_walk (w : World) (n : Int) (hn : (Lit.int .u8 n).wf = true) (A : Option Addr) (len cap : Nat) (zs : List Int) (hS : SlIn w A len cap (zs.map (Value.int .i64))) (hwf : ∀ n ∈ zs, (Lit.int .i64 n).wf = true) (x : Int) (hx : (Lit.int .u8 x).wf = true) :
    Calls Try.prog 7 #[.int .u8 n, .slice A len cap, .int .u8 x] w fun e w' => e = .returned (.bool true) ∧ Below w.heap.size w w' := by
  have h0 := wf_u8 hn
  have h1 := wf_u8 hx
  obtain ⟨k, rfl⟩ := Int.eq_ofNat_of_zero_le h0.1
  obtain ⟨ec, rfl⟩ := Int.eq_ofNat_of_zero_le h1.1
  refine refuses_core w k (by omega) A len cap zs hS (fun j => ?_) ec (by omega)
  by_cases hj : j < zs.length
  · exact wf_i64 (hwf (zs.getD j 0) (by rw [List.getD_eq_getElem?_getD, List.getElem?_eq_getElem hj]; simp))
  · rw [List.getD_eq_getElem?_getD, List.getElem?_eq_none (by omega)]; simp
end Go.Proofs.Ytpkmknbmjlnkgaa
