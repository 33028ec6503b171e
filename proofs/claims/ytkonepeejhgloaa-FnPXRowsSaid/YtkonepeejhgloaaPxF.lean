/- FnPXTwice: the walk of the law. -/
import Derived.Test.YtkonepeejhgloaaPxE
namespace Go.Proofs.Ytkonepeejhgloaa
open Go.RowKit
set_option linter.unusedVariables false
theorem rd_byte {w : World} {A : Option Addr} {n : Nat} {px : Nat → Nat} (h : Rd w A n (bytesOf n px)) (hn : 1 ≤ n) : ∃ b o, A = some ⟨b, o, none⟩ ∧ b < w.heap.size ∧ ∀ k, k < n → w.cell? ⟨b, o + k, none⟩ = some (.int .u8 (px k : Nat)) := by
  obtain ⟨b, o, hA, hb, hc⟩ := h.2 (by omega)
  refine ⟨b, o, hA, hb, fun k hk => ?_⟩
  rw [hc k (by rw [bytesOf_length]; exact hk)]
  have := bytesOf_at n px k hk
  rw [List.getElem?_eq_getElem (by rw [bytesOf_length]; exact hk)] at this
  exact this
theorem twiceLong (A : Option Addr) (n cap : Nat) (z : Int) (w : World) (hn : 2147483647 < n) :
    Calls Try.prog 3 #[.slice A n cap, .int .u8 z] w fun e w' => e = .returned (.bool true) ∧ Below w.heap.size w w' := by
  have hn' : (2147483647 : Int) < (n : Int) := by omega
  have HB := hid (Below.refl w.heap.size w)
  go_enter Try.func3, Try.ntmps3
  go_wp2_with fail
  go_ret
  exact ⟨rfl, HB.out⟩
set_option maxRecDepth 20000 in
set_option maxHeartbeats 8000000 in
theorem twice (A : Option Addr) (n cap : Nat) (B : Nat → Nat) (z : Int) (hz0 : 0 ≤ z) (hz1 : z ≤ 255) (w : World) (hR : RdB w A n B) (hn : n ≤ 2147483647) :
    Calls Try.prog 3 #[.slice A n cap, .int .u8 z] w fun e w' => e = .returned (.bool true) ∧ Below w.heap.size w w' := by
  have pg := pxGrays A n cap B z hz0 hz1 w hR hn
  clear hR
  go_enter Try.func3, Try.ntmps3
  go_wp2_with fail
  refine pg.mono ?_
  clear pg
  rintro e w1 ⟨wd, h, g, N, px, rfl, hN, hw1, hw2, hh1, hh2, hpx, hA, hb⟩
  have hnb : N ≤ 60 * 60 := by rw [hN]; exact Nat.mul_le_mul hw2 hh2
  have hn1 : 1 * 1 ≤ N := by rw [hN]; exact Nat.mul_le_mul hw1 hh1
  have hRl := Rd.of_arr hA
  rw [bytesOf_length] at hRl
  have HN := hid hN
  have HPX := hid hpx
  have HB1 := hid hb
  have RL := hid hRl
  have hglt := hA.lt
  have gi := grayInvert wd h N N (some ⟨g, 0, none⟩) px w1 RL.out hw1 hw2 hh1 hh2 HN.out HPX.out
  clear hN hpx hA hb hRl
  go_wp2_with fail
  refine gi.mono ?_
  rintro e w2 ⟨A1, c1, rfl, hc1, hR1, hb2⟩
  have HB2 := hid (HB1.out.trans (hb2.mono HB1.out.size))
  have RL2 := hid (RL.out.below hb2)
  have R1 := hid hR1
  have gm := grayMirror wd h N N (some ⟨g, 0, none⟩) px w2 RL2.out hw1 hw2 hh1 hh2 HN.out HPX.out
  clear gi hR1 hb2
  go_wp2_with fail
  refine gm.mono ?_
  rintro e w3 ⟨A2, c2, rfl, hc2, hR2, hb3⟩
  have HB3 := hid (HB2.out.trans (hb3.mono HB2.out.size))
  have RL3 := hid (RL2.out.below hb3)
  have R13 := hid (R1.out.below hb3)
  have R2 := hid hR2
  clear gm hR2 hb3
  obtain ⟨b1, o1, rfl, hb1l, k1⟩ := rd_byte R13.out (by omega)
  obtain ⟨b2, o2, rfl, hb2l, k2⟩ := rd_byte R2.out (by omega)
  obtain ⟨b0, o0, hbe, hb0l, k0⟩ := rd_byte RL3.out (by omega)
  injection hbe with hbe
  injection hbe with e1 e2
  subst e1 e2
  have K0 := hid k0
  have K1 := hid k1
  have K2 := hid k2
  clear k0 k1 k2
  go_wp2_with fail
  go_loopw [12] (fun iv wr => ∃ i : Nat, i ≤ N ∧ iv = .int .i64 i ∧ ∃ m, w3.drewN m = wr) (fun iv _ => N - (intOf iv).toNat)
  case atStart => exact ⟨0, by omega, rfl, 0, rfl⟩
  case round =>
    obtain ⟨i, hi, rfl, m, rfl⟩ := hrel
    by_cases hlt : i < N
    · have hlt2 : (i : Int) < (N : Int) := by omega
      have q0 := K0.out i hlt
      have q1 := K1.out i hlt
      have q2 := K2.out i hlt
      rw [Nat.zero_add] at q0
      have hml : mir wd i < N := by rw [HN.out]; exact mir_lt hw1 (by rw [← HN.out]; exact hlt)
      have q3 := K0.out (mir wd i) hml
      rw [Nat.zero_add] at q3
      obtain ⟨y, hy⟩ : ∃ y, y = i / wd := ⟨_, rfl⟩
      obtain ⟨x, hx⟩ : ∃ x, x = i % wd := ⟨_, rfl⟩
      obtain ⟨R, hRr⟩ : ∃ R, R = y * wd := ⟨_, rfl⟩
      have hxl : x < wd := by rw [hx]; exact Nat.mod_lt _ hw1
      have hmx : mir wd i = R + (wd - 1 - x) := by unfold mir; rw [hRr, hy, hx]
      rw [hmx] at q2 q3 hml
      have ey : (i : Int) / (wd : Int) = (y : Int) := by rw [hy]; exact (Int.natCast_ediv _ _).symm
      have ex : (i : Int) % (wd : Int) = (x : Int) := by rw [hx]; exact (Int.natCast_emod _ _).symm
      have eR : (y : Int) * (wd : Int) = (R : Int) := by rw [hRr]; exact (Int.natCast_mul _ _).symm
      obtain ⟨M, hM⟩ : ∃ M, M = R + (wd - 1 - x) := ⟨_, rfl⟩
      rw [← hM] at q2 q3 hml
      have eM : (R : Int) + (wd : Int) - 1 - (x : Int) = (M : Int) := by omega
      have hml2 : (M : Int) < (N : Int) := by omega
      have hyl : y ≤ i := by rw [hy]; exact Nat.div_le_self _ _
      have w1' : IntKind.i64.wrap ((R : Int) + (wd : Int)) = (R : Int) + (wd : Int) := IntWalk.i64_in _ ⟨by omega, by omega⟩
      have w2' : IntKind.i64.wrap ((R : Int) + (wd : Int) - 1) = (R : Int) + (wd : Int) - 1 := IntWalk.i64_in _ ⟨by omega, by omega⟩
      have w3' : IntKind.i64.wrap ((R : Int) + (wd : Int) - 1 - (x : Int)) = (M : Int) := by rw [eM]; exact IntWalk.i64_in _ ⟨by omega, by omega⟩
      have hp := HPX.out i
      have hpm := HPX.out M
      have w4' : IntKind.i64.wrap ((((255 - px i : Nat) : Nat) : Int) + (px i : Nat)) = 255 := by rw [show ((((255 - px i : Nat) : Nat) : Int) + (px i : Nat)) = 255 by omega]; exact IntWalk.i64_in _ ⟨by omega, by omega⟩
      have w5' : (((255 - px i : Nat) : Nat) : Int) + (px i : Nat) = 255 := by omega
      have HX : Hid (x < wd) := hid hxl
      clear hy hx hRr hM hmx
      have hs : ((255 - px i : Nat) : Int) ≤ 255 := by omega
      generalize hv : 255 - px i = v at *
      have HV := hid hv
      clear hv
      generalize px i = p at *
      generalize px M = r at *
      go_wp2_with fail
      go_quiet (fail)
      go_wp2_with fail
      go_roundw
      case rel => exact ⟨i + 1, by omega, by go_num, _, rfl⟩
      case measure => simp [intOf]; omega
    · obtain rfl : i = N := by omega
      have gi := fun W h1 => grayInvert wd h i c1 (some ⟨b1, o1, none⟩) (fun k => 255 - px k) W h1 hw1 hw2 hh1 hh2 HN.out (fun k => by have := HPX.out k; show 255 - px k < 256; omega)
      have gm := fun W h1 => grayMirror wd h i c2 (some ⟨b2, o2, none⟩) (fun k => px (mir wd k)) W h1 hw1 hw2 hh1 hh2 HN.out (fun k => HPX.out _)
      have R1m := hid (R13.out.drewN m)
      have R2m := hid (R2.out.drewN m)
      have RLm := hid (RL3.out.drewN m)
      have HBm := hid (below_drewN HB3.out m)
      have GM := hid gm
      clear gm
      go_wp2_with fail
      refine (gi _ (by exact R1m.out)).mono ?_
      clear gi
      rintro e w4 ⟨A3, c3, rfl, hc3, hR3, hb4⟩
      have HB4 := hid (HBm.out.trans (hb4.mono HBm.out.size))
      have R3 := hid (show Rd w4 A3 i (bytesOf i px) from by
        rw [bytesOf_congr (p := px) (q := fun k => 255 - (255 - px k)) fun k _ => by have := HPX.out k; omega]
        exact hR3)
      have R24 := hid (R2m.out.below hb4)
      have RL4 := hid (RLm.out.below hb4)
      have gm := GM.out w4 R24.out
      clear hR3 hb4 GM
      go_wp2_with fail
      refine gm.mono ?_
      clear gm
      rintro e w5 ⟨A4, c4, rfl, hc4, hR4, hb5⟩
      have HB5 := hid (HB4.out.trans (hb5.mono HB4.out.size))
      have R4 := hid (show Rd w5 A4 i (bytesOf i px) from by
        rw [bytesOf_congr (p := px) (q := fun k => px (mir wd (mir wd k))) fun k _ => by rw [mir_mir hw1]]
        exact hR4)
      have R35 := hid (R3.out.below hb5)
      have RL5 := hid (RL4.out.below hb5)
      have s1 := pxSame A3 (some ⟨g, 0, none⟩) i c3 i px w5 (by omega) R35.out RL5.out
      have s2 := hid (pxSame A4 (some ⟨g, 0, none⟩) i c4 i px w5 (by omega) R4.out RL5.out)
      clear hR4 hb5
      go_wp2_with fail
      refine s1.mono ?_
      clear s1
      rintro e w6 ⟨rfl, rfl⟩
      have s3 := s2.out
      go_wp2_with fail
      refine s3.mono ?_
      clear s3
      rintro e w6 ⟨rfl, rfl⟩
      go_wp2_with fail
      go_ret
      exact ⟨rfl, HB5.out⟩
theorem FnPXTwice_walk (w : World) (A : Option Addr) (len cap : Nat) (zs : List Int) (hS : SlIn w A len cap (zs.map (Value.int .u8))) (hwf : ∀ n ∈ zs, (Lit.int .u8 n).wf = true) (z : Int) (hz : (Lit.int .u8 z).wf = true) :
    Calls Try.prog 3 #[.slice A len cap, .int .u8 z] w fun e w' => e = .returned (.bool true) ∧ Below w.heap.size w w' := by
  by_cases hn : 2147483647 < len
  · exact twiceLong A len cap z w hn
  obtain ⟨h0, h1⟩ := wf_u8 hz
  exact twice A len cap _ z h0 h1 w (rdB_of hS hwf) (by omega)
end Go.Proofs.Ytkonepeejhgloaa
