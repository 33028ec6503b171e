/- FnPXRows: the walk of the law. -/
import Derived.Test.YtkonepeejhgloaaRowC
import Derived.Test.YtkonepeejhgloaaPxF
namespace Go.Proofs.Ytkonepeejhgloaa
open Go.RowKit
set_option linter.unusedVariables false
set_option linter.unusedSimpArgs false

theorem cntTo_pos {px : Nat → Nat} {k x wd : Nat} (hx : x < wd) (h : px x / 8 = k) : 0 < cntTo px k wd := by
  induction wd with
  | zero => omega
  | succ n ih =>
    rw [cntTo]
    by_cases e : x = n
    · rw [← e, if_pos h]; omega
    · have := ih (by omega); omega
theorem cntTo_none {px : Nat → Nat} {k wd : Nat} (h : ∀ x, x < wd → px x / 8 ≠ k) : cntTo px k wd = 0 := by
  induction wd with
  | zero => rfl
  | succ n ih => rw [cntTo, ih (fun x hx => h x (by omega)), if_neg (h n (by omega))]
/-- A row of black and white alone, and of both, has a bound. -/
theorem both_bound {px : Nat → Nat} {wd : Nat} (hw : 1 ≤ wd) (hb : bothB (otherB px wd (px 0)) wd) (hc : ∀ k, k < wd → px k = 0 ∨ px k = 255) : bound (cntF px wd) ≠ none := by
  obtain ⟨i, hi1, hi2, hne⟩ := hb
  have e1 : (otherB px wd (px 0)).getD i false = decide (px i ≠ px 0) := by simp [otherB, List.getD, List.getElem?_range hi2]
  have e0 : (otherB px wd (px 0)).getD 0 false = decide (px 0 ≠ px 0) := by simp [otherB, List.getD, List.getElem?_range (show 0 < wd by omega)]
  rw [e1, e0] at hne
  have hd : px i ≠ px 0 := by
    intro h; rw [h] at hne; exact hne rfl
  have h0 := hc 0 (by omega)
  have hi := hc i hi2
  apply bound_far
  · unfold cntF
    rcases h0 with h | h
    · exact cntTo_pos (x := 0) (by omega) (by rw [h])
    · rcases hi with h' | h'
      · exact cntTo_pos (x := i) hi2 (by rw [h'])
      · omega
  · unfold cntF
    rcases h0 with h | h
    · rcases hi with h' | h'
      · omega
      · exact cntTo_pos (x := i) hi2 (by rw [h'])
    · exact cntTo_pos (x := 0) (by omega) (by rw [h])
  · intro k h1 h2
    unfold cntF
    refine cntTo_none (fun x hx => ?_)
    rcases hc x hx with h | h <;> rw [h] <;> omega

theorem rowPx_zero (px : Nat → Nat) (wd : Nat) : rowPx px wd 0 = px := by funext x; unfold rowPx; rw [Nat.zero_mul, Nat.zero_add]

theorem rd_row {w : World} {b n wd y : Nat} {px : Nat → Nat} (hR : Rd w (some ⟨b, 0, none⟩) n (bytesOf n px)) (hw1 : 1 ≤ wd) (hyw : y * wd + wd ≤ n) : Rd w (some ⟨b, y * wd, none⟩) wd (bytesOf wd (rowPx px wd y)) := by
  obtain ⟨hl, h2⟩ := hR
  obtain ⟨b', o', hA, hb, hc⟩ := h2 (by omega)
  injection hA with hA
  simp only [Addr.mk.injEq, and_true] at hA
  obtain ⟨rfl, rfl⟩ := hA
  refine ⟨bytesOf_length _ _, fun _ => ⟨b, y * wd, rfl, hb, fun k hk => ?_⟩⟩
  rw [bytesOf_length] at hk
  have := hc (y * wd + k) (by rw [bytesOf_length]; omega)
  rw [Nat.zero_add] at this
  rw [this]
  simp [bytesOf, rowPx]
theorem rd_first {w : World} {b o wd : Nat} {px : Nat → Nat} (hR : Rd w (some ⟨b, o, none⟩) wd (bytesOf wd px)) (hw1 : 1 ≤ wd) : w.cell? ⟨b, o, none⟩ = some (.int .u8 (px 0 : Nat)) := by
  obtain ⟨b', o', hA, hb, hc⟩ := rd_byte hR hw1
  injection hA with hA
  simp only [Addr.mk.injEq, and_true] at hA
  obtain ⟨rfl, rfl⟩ := hA
  exact hc 0 (by omega)

set_option maxRecDepth 20000 in
set_option maxHeartbeats 16000000 in
theorem pxRows (A : Option Addr) (n cap : Nat) (B : Nat → Nat) (z : Int) (hz0 : 0 ≤ z) (hz1 : z ≤ 255) (y : Nat) (hy : y ≤ 255) (w : World) (hR : RdB w A n B) (hn : n ≤ 2147483647) :
    Calls Try.prog 4 #[.slice A n cap, .int .u8 z, .int .u8 y] w fun e w' => e = .returned (.bool true) ∧ Below w.heap.size w w' := by
  have pg := pxGrays A n cap B z hz0 hz1 w hR hn
  have hn' : ¬ (2147483647 : Int) < (n : Int) := by omega
  clear hR
  go_enter Try.func4, Try.ntmps4
  go_wp2_with fail
  refine pg.mono ?_
  clear pg
  rintro e w1 ⟨wd, h, g, N, px, rfl, hN, hw1, hw2, hh1, hh2, hpx, hA, hb⟩
  have hnb : N ≤ 60 * 60 := by rw [hN]; exact Nat.mul_le_mul hw2 hh2
  have hRl := Rd.of_arr hA
  rw [bytesOf_length] at hRl
  have hky := Nat.mod_lt y (show 0 < h by omega)
  have ek : (y : Int) % (h : Int) = ((y % h : Nat) : Int) := (Int.natCast_emod _ _).symm
  have hh0 : ¬ (h : Int) = 0 := by omega
  generalize y % h = k at *
  have hkw : k * wd + wd ≤ N := by
    rw [hN, Nat.mul_comm wd h]
    have := Nat.mul_le_mul_right wd (show k + 1 ≤ h by omega)
    rwa [Nat.add_mul, Nat.one_mul] at this
  have hmul : (k : Int) * (wd : Int) = ((k * wd : Nat) : Int) := by simp
  have HN := hid hN
  have HPX := hid hpx
  have HB1 := hid hb
  have RL := hid hRl
  have hglt := hA.lt
  have br := blackRow wd h N N k (some ⟨g, 0, none⟩) px w1 hRl hw1 hw2 hh1 hh2 hN hky hpx
  clear hN hpx hA hb hRl
  go_wp2_with fail
  refine br.mono ?_
  rintro e w2 ⟨hb2, h2⟩
  have RL2 := hid (RL.out.below hb2)
  have HB2 := hid (HB1.out.trans (hb2.mono HB1.out.size))
  have pp := pxPart g 0 wd h N N k px w2 RL2.out (Nat.le_refl _) hw1 hw2 hh2 HN.out hky
  have hg2 : g < w2.heap.size := Nat.lt_of_lt_of_le hglt hb2.size
  have HRP : Hid (∀ x, rowPx px wd k x < 256) := hid (fun x => HPX.out _)
  have HBD := hid (fun (a : bothB (otherB (rowPx px wd k) wd (rowPx px wd k 0)) wd) b => both_bound hw1 a b)
  have HRW := hid (fun (W : World) (hR : Rd W (some ⟨g, 0, none⟩) N (bytesOf N px)) => rd_row hR hw1 hkw)
  have HR0 : Hid (rowPx (rowPx px wd k) wd 0 = rowPx px wd k) := hid (rowPx_zero _ _)
  clear br hb2 RL HB1
  generalize rowPx px wd k = rp at *
  generalize k * wd = kw at *
  rcases h2 with ⟨hn0, rfl⟩ | ⟨bd, G, hs0, rfl, hRG⟩
  · have HN0 := hid hn0
    clear hn0
    go_wp2_with fail
    refine pp.mono ?_
    rintro e w3 ⟨Ap, cp, rfl, hRp, hb3⟩
    have RL3 := hid (RL2.out.below hb3)
    have HB3 := hid (HB2.out.trans (hb3.mono HB2.out.size))
    have b2 := blackRow wd 1 wd cp 0 Ap rp w3 hRp hw1 hw2 (by omega) (by omega) (Nat.mul_one wd).symm (by omega) HRP.out
    rw [HR0.out] at b2
    clear pp hRp hb3 RL2 HB2
    go_wp2_with fail
    refine b2.mono ?_
    rintro e w4 ⟨hb4, h4⟩
    have RL4 := hid (RL3.out.below hb4)
    have HB4 := hid (HB3.out.trans (hb4.mono HB3.out.size))
    clear b2 hb4 RL3 HB3
    have h5 : e = .returned (.tuple #[.slice none 0 0, .bool false]) := by
      rcases h4 with ⟨_, h⟩ | ⟨bd, G, h, _⟩
      · exact h
      · rw [HN0.out] at h; cases h
    subst h5
    clear h4
    go_wp2_with fail
    have R5 := HRW.out w4 RL4.out
    have c5 := rd_first R5 hw1
    have pd := fun h => pxDark (some ⟨g, kw, none⟩) wd (N - kw) (rp 0) rp w4.drew h hw1 hw2
    have R5d := R5.drew
    have pd := pd R5d
    have hg4 : g < w4.heap.size := by obtain ⟨_, _, hA, h, _⟩ := R5.2 (by omega); injection hA with hA; simp only [Addr.mk.injEq] at hA; rw [hA.1]; exact h
    have hkn : (kw : Int) + (wd : Int) ≤ (N : Int) := by omega
    have hkt : ((kw : Int) + (wd : Int)).toNat - kw = wd := by omega
    have hkl : (kw : Int) < (N : Int) := by omega
    have hwr1 : IntKind.i64.wrap ((k : Int) * (wd : Int)) = (kw : Int) := by rw [hmul]; exact IntWalk.i64_in _ ⟨by omega, by omega⟩
    have hwr2 : IntKind.i64.wrap ((kw : Int) + (wd : Int)) = (kw : Int) + (wd : Int) := IntWalk.i64_in _ ⟨by omega, by omega⟩
    have hNk : ¬ N = kw := by omega
    have hwr0 : IntKind.i64.wrap (kw : Int) = (kw : Int) := IntWalk.i64_in _ ⟨by omega, by omega⟩
    have hk0 : (0 : Int) ≤ (kw : Int) := by omega
    have hk1 : (kw : Int) ≤ (kw : Int) + (wd : Int) := by omega
    have hk2 : (0 : Int) ≤ (kw : Int) + (wd : Int) := by omega
    have B4 := Below.refl w4.heap.size w4
    have R5h := hid R5
    clear R5 R5d
    go_region_held3 (fun w' => w'.cell? ⟨g, kw, none⟩ = some (.int .u8 (rp 0 : Nat)) ∧ Below w4.heap.size w4 w')
      (first | exact ⟨c5, B4.drew⟩ | exact ⟨(Below.cell (p := ⟨g, kw, none⟩) hb5 hg4).trans c5, B4.drew.trans hb5⟩)
      (first | (go_at_call 12; ((with_reducible refine pd.mono ?_); rintro e w5 ⟨Gd, rfl, hRd, hb5⟩)))
    have hb5' := B4.drew.trans hb5
    have HB5 := hid (HB4.out.trans (hb5'.mono HB4.out.size))
    have R6 := hid (R5h.out.below hb5')
    have RD := hid hRd
    have pb := pxBoth (some ⟨Gd, 0, none⟩) wd wd (otherB rp wd (rp 0)) w5 hRd hw1 hw2
    have pc := fun m => pxClear (some ⟨g, kw, none⟩) wd (N - kw) rp (w5.drewN m) (R6.out.drewN m) hw1 hw2 HRP.out
    clear c5 B4 hb5 hb5' hRd pd RL4 HB4
    by_cases hw3 : (2 : Int) < (wd : Int)
    · go_wp2_with fail
      refine pb.mono ?_
      rintro e w6 ⟨v, m, rfl, rfl, hv⟩
      have HV := hid hv
      clear hv pb
      cases v with
      | false =>
        go_wp2_with fail
        refine (sameBits none none 0 0 0 [] (w5.drewN m) Rd.nil Rd.nil (by omega)).mono ?_
        rintro e w7 ⟨rfl, m2, rfl⟩
        go_wp2_with fail
        go_ret
        exact ⟨rfl, below_drewN HB5.out (m + m2)⟩
      | true =>
        go_wp2_with fail
        refine (pc m).mono ?_
        rintro e w7 ⟨v2, rfl, rfl, hv2⟩
        have HV2 := hid hv2
        clear hv2 pc
        cases v2 with
        | false =>
          go_wp2_with fail
          refine (sameBits none none 0 0 0 [] (w5.drewN m) Rd.nil Rd.nil (by omega)).mono ?_
          rintro e w7 ⟨rfl, m2, rfl⟩
          go_wp2_with fail
          go_ret
          exact ⟨rfl, below_drewN HB5.out (m + m2)⟩
        | true => exact absurd HN0.out (HBD.out (HV.out (by first | rfl | trivial)) (HV2.out (by first | rfl | trivial)))
    · go_wp2_with fail
      refine (sameBits none none 0 0 0 [] w5 Rd.nil Rd.nil (by omega)).mono ?_
      rintro e w7 ⟨rfl, m2, rfl⟩
      go_wp2_with fail
      go_ret
      exact ⟨rfl, below_drewN HB5.out m2⟩
  · have HS0 := hid hs0
    have HRG := hid hRG
    clear hs0 hRG
    go_wp2_with fail
    refine pp.mono ?_
    rintro e w3 ⟨Ap, cp, rfl, hRp, hb3⟩
    have RL3 := hid (RL2.out.below hb3)
    have HB3 := hid (HB2.out.trans (hb3.mono HB2.out.size))
    have HRG3 := hid (HRG.out.below hb3)
    have b2 := blackRow wd 1 wd cp 0 Ap rp w3 hRp hw1 hw2 (by omega) (by omega) (Nat.mul_one wd).symm (by omega) HRP.out
    rw [HR0.out] at b2
    clear pp hRp hb3 RL2 HB2 HRG
    go_wp2_with fail
    refine b2.mono ?_
    rintro e w4 ⟨hb4, h4⟩
    have RL4 := hid (RL3.out.below hb4)
    have HB4 := hid (HB3.out.trans (hb4.mono HB3.out.size))
    have HRG4 := hid (HRG3.out.below hb4)
    clear b2 hb4 RL3 HB3 HRG3
    rcases h4 with ⟨hbad, _⟩ | ⟨bd2, G2, hs2, rfl, hRG2⟩
    · rw [HS0.out] at hbad; cases hbad
    obtain rfl : bd = bd2 := by rw [HS0.out] at hs2; injection hs2
    have HRH := hid hRG2
    clear hs2 hRG2
    go_wp2_with fail
    have R5 := HRW.out w4 RL4.out
    have c5 := rd_first R5 hw1
    have pd := fun h => pxDark (some ⟨g, kw, none⟩) wd (N - kw) (rp 0) rp w4.drew h hw1 hw2
    have R5d := R5.drew
    have pd := pd R5d
    have hg4 : g < w4.heap.size := by obtain ⟨_, _, hA, h, _⟩ := R5.2 (by omega); injection hA with hA; simp only [Addr.mk.injEq] at hA; rw [hA.1]; exact h
    have hkn : (kw : Int) + (wd : Int) ≤ (N : Int) := by omega
    have hkt : ((kw : Int) + (wd : Int)).toNat - kw = wd := by omega
    have hkl : (kw : Int) < (N : Int) := by omega
    have hwr1 : IntKind.i64.wrap ((k : Int) * (wd : Int)) = (kw : Int) := by rw [hmul]; exact IntWalk.i64_in _ ⟨by omega, by omega⟩
    have hwr2 : IntKind.i64.wrap ((kw : Int) + (wd : Int)) = (kw : Int) + (wd : Int) := IntWalk.i64_in _ ⟨by omega, by omega⟩
    have hNk : ¬ N = kw := by omega
    have hwr0 : IntKind.i64.wrap (kw : Int) = (kw : Int) := IntWalk.i64_in _ ⟨by omega, by omega⟩
    have hk0 : (0 : Int) ≤ (kw : Int) := by omega
    have hk1 : (kw : Int) ≤ (kw : Int) + (wd : Int) := by omega
    have hk2 : (0 : Int) ≤ (kw : Int) + (wd : Int) := by omega
    have B4 := Below.refl w4.heap.size w4
    have R5h := hid R5
    clear R5 R5d
    go_region_held3 (fun w' => w'.cell? ⟨g, kw, none⟩ = some (.int .u8 (rp 0 : Nat)) ∧ Below w4.heap.size w4 w')
      (first | exact ⟨c5, B4.drew⟩ | exact ⟨(Below.cell (p := ⟨g, kw, none⟩) hb5 hg4).trans c5, B4.drew.trans hb5⟩)
      (first | (go_at_call 12; ((with_reducible refine pd.mono ?_); rintro e w5 ⟨Gd, rfl, hRd, hb5⟩)))
    have hb5' := B4.drew.trans hb5
    have HB5 := hid (HB4.out.trans (hb5'.mono HB4.out.size))
    have R6 := hid (R5h.out.below hb5')
    have RD := hid hRd
    have pb := pxBoth (some ⟨Gd, 0, none⟩) wd wd (otherB rp wd (rp 0)) w5 hRd hw1 hw2
    have pc := fun m => pxClear (some ⟨g, kw, none⟩) wd (N - kw) rp (w5.drewN m) (R6.out.drewN m) hw1 hw2 HRP.out
    have HG5 := hid (HRG4.out.below hb5')
    have HH5 := hid (HRH.out.below hb5')
    clear c5 B4 hb5 hb5' hRd pd RL4 HB4
    go_wp2_with fail
    refine (sameBits (some ⟨G, 0, none⟩) (some ⟨G2, 0, none⟩) wd wd wd _ w5 HG5.out HH5.out (by omega)).mono ?_
    rintro e w7 ⟨rfl, m2, rfl⟩
    go_wp2_with fail
    go_ret
    exact ⟨rfl, below_drewN HB5.out m2⟩

theorem pxRowsLong (A : Option Addr) (n cap : Nat) (z y : Int) (w : World) (hn : 2147483647 < n) :
    Calls Try.prog 4 #[.slice A n cap, .int .u8 z, .int .u8 y] w fun e w' => e = .returned (.bool true) ∧ Below w.heap.size w w' := by
  have hn' : (2147483647 : Int) < (n : Int) := by omega
  have HB := hid (Below.refl w.heap.size w)
  go_enter Try.func4, Try.ntmps4
  go_wp2_with fail
  go_ret
  exact ⟨rfl, HB.out⟩
theorem FnPXRows_walk (w : World) (A : Option Addr) (len cap : Nat) (zs : List Int) (hS : SlIn w A len cap (zs.map (Value.int .u8))) (hwf : ∀ n ∈ zs, (Lit.int .u8 n).wf = true) (z : Int) (hz : (Lit.int .u8 z).wf = true) (y : Int) (hy : (Lit.int .u8 y).wf = true) :
    Calls Try.prog 4 #[.slice A len cap, .int .u8 z, .int .u8 y] w fun e w' => e = .returned (.bool true) ∧ Below w.heap.size w w' := by
  by_cases hn : 2147483647 < len
  · exact pxRowsLong A len cap z y w hn
  obtain ⟨h0, h1⟩ := wf_u8 hz
  obtain ⟨h2, h3⟩ := wf_u8 hy
  obtain ⟨k, rfl⟩ : ∃ k : Nat, y = k := ⟨y.toNat, by omega⟩
  exact pxRows A len cap _ z h0 h1 k (by omega) w (rdB_of hS hwf) (by omega)
end Go.Proofs.Ytkonepeejhgloaa
