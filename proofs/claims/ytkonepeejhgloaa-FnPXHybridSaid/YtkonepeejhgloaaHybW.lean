/- FnPXHybrid: the walk of the law. -/
import Derived.Test.YtkonepeejhgloaaHybE
namespace Go.Proofs.Ytkonepeejhgloaa
open Go.RowKit
set_option linter.unusedVariables false
set_option linter.unusedSimpArgs false

theorem pxOf_lt (R : Nat → Nat → Bool) (W lt : Nat) (h : lt ≤ 255) (k : Nat) : pxOf R W lt k < 256 := by
  unfold pxOf; split <;> omega
theorem brow_dim (R : Nat → Nat → Bool) (W H k : Nat) (hk : k < H) : brow (fun r c => DimB R W H c r) W k = brow R W k := by
  unfold brow
  exact List.map_congr_left fun c hc => by
    have := List.mem_range.1 hc
    simp [DimB, this, hk]

set_option maxRecDepth 20000 in
set_option maxHeartbeats 16000000 in
theorem hybrid (A : Option Addr) (L cap x y z lt : Nat) (zs : List Bool) (w : World) (hZ : Rd w A L (zs.map Value.bool)) (hL : L ≤ 2147483647) (hx : x ≤ 255) (hy : y ≤ 255) (hz : z ≤ 255) (hlt : lt = max 25 z) :
    Calls Try.prog 5 #[.slice A L cap, .int .u8 x, .int .u8 y, .int .u8 z] w fun e w' => e = .returned (.bool true) ∧ Below w.heap.size w w' := by
  have pl := pxLarge x y hx hy A L cap zs w hZ hL
  have hL' : ¬ (2147483647 : Int) < (L : Int) := by omega
  have hx81 := Nat.mod_lt x (show 0 < 81 by omega)
  have hy81 := Nat.mod_lt y (show 0 < 81 by omega)
  generalize hWW : 40 + x % 81 = W at *
  generalize hHH : 40 + y % 81 = H at *
  have hW1 : 40 ≤ W := by omega
  have hW2 : W ≤ 120 := by omega
  have hH1 : 40 ≤ H := by omega
  have hH2 : H ≤ 120 := by omega
  have hl0 : 25 ≤ lt := by omega
  have hl1 : lt ≤ 255 := by omega
  generalize wrapR zs L W = R at *
  have hcase : ((z : Int) ≤ 25 ∧ lt = 25) ∨ ((25 : Int) < (z : Int) ∧ lt = z) := by omega
  clear hlt hZ hWW hHH hx81 hy81
  have dr := fun G c W' hX => pxDraw G c W H lt (W * H) R W' hX (by omega) hW2 (by omega) hH2 hl1 rfl
  have bm := fun A c W' hR => blackMatrix W H (W * H) c lt A (pxOf R W lt) (DimB R W H) W' hR rfl hW1 hW2 hH1 hH2 hl0 hl1 (pxOf_lt R W lt hl1) (fun a b ha hb => DimB_px R W H lt a b ha hb) (fun a b h => DimB_bd R W H a b h)
  have HBR := hid (fun k hk => brow_dim R W H k hk)
  generalize pxOf R W lt = px at *
  generalize DimB R W H = D at *
  generalize W * H = n at *
  rcases hcase with ⟨hz1, rfl⟩ | ⟨hz1, rfl⟩
  all_goals (
    have DR := hid dr
    have BM := hid bm
    clear dr bm
    go_enter Try.func5, Try.ntmps5
    go_wp2_with fail
    refine pl.mono ?_
    rintro e w1 ⟨G, rfl, hG, hX, hb1⟩
    have HX := hid hX
    have HB1 := hid hb1
    have d1 := DR.out G H w1 hX
    clear pl hX hb1
    go_wp2_with fail
    refine d1.mono ?_
    rintro e w2 ⟨A2, c2, rfl, hR2, hb2⟩
    have HX2 := hid (HX.out.below hb2)
    have HB2 := hid (HB1.out.trans (hb2.mono HB1.out.size))
    have b1 := BM.out A2 c2 w2 hR2
    clear d1 hR2 hb2 DR BM
    go_wp2_with fail
    refine b1.mono ?_
    rintro e w3 ⟨G3, rfl, hX3, hb3⟩
    have HX3 := hid (hX3.congr (fun k hk => HBR.out k hk))
    have HXX := hid (HX2.out.below hb3)
    have HB3 := hid (HB2.out.trans (hb3.mono HB2.out.size))
    have sr := sameRows G3 G H H W H R w3 HX3.out HXX.out (by omega) (by omega) (by omega)
    clear b1 hX3 hb3
    go_wp2_with fail
    refine sr.mono ?_
    rintro e w4 ⟨rfl, m, rfl⟩
    go_wp2_with fail
    go_ret
    exact ⟨rfl, below_drewN HB3.out m⟩)

theorem hybridLong (A : Option Addr) (L cap : Nat) (x y z : Int) (w : World) (hL : 2147483647 < L) :
    Calls Try.prog 5 #[.slice A L cap, .int .u8 x, .int .u8 y, .int .u8 z] w fun e w' => e = .returned (.bool true) ∧ Below w.heap.size w w' := by
  have hL' : (2147483647 : Int) < (L : Int) := by omega
  have HB := hid (Below.refl w.heap.size w)
  go_enter Try.func5, Try.ntmps5
  go_wp2_with fail
  go_ret
  exact ⟨rfl, HB.out⟩
theorem FnPXHybrid_walk (w : World) (A : Option Addr) (len cap : Nat) (zs : List Bool) (hS : SlIn w A len cap (zs.map Value.bool)) (x : Int) (hx : (Lit.int .u8 x).wf = true) (y : Int) (hy : (Lit.int .u8 y).wf = true) (z : Int) (hz : (Lit.int .u8 z).wf = true) :
    Calls Try.prog 5 #[.slice A len cap, .int .u8 x, .int .u8 y, .int .u8 z] w fun e w' => e = .returned (.bool true) ∧ Below w.heap.size w w' := by
  by_cases hn : 2147483647 < len
  · exact hybridLong A len cap x y z w hn
  obtain ⟨x0, x1⟩ := wf_u8 hx
  obtain ⟨y0, y1⟩ := wf_u8 hy
  obtain ⟨z0, z1⟩ := wf_u8 hz
  obtain ⟨a, rfl⟩ : ∃ a : Nat, x = a := ⟨x.toNat, by omega⟩
  obtain ⟨b, rfl⟩ : ∃ b : Nat, y = b := ⟨y.toNat, by omega⟩
  obtain ⟨c, rfl⟩ : ∃ c : Nat, z = c := ⟨z.toNat, by omega⟩
  exact hybrid A len cap a b c (max 25 c) zs w hS.rd (by omega) (by omega) (by omega) (by omega) rfl
end Go.Proofs.Ytkonepeejhgloaa
