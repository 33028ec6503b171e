/- gozxing.HybridBinarizer.cap, thresholdBlock. -/
import Derived.Test.YtkonepeejhgloaaHybL
import Derived.Test.YtkonepeejhgloaaRowG
namespace Go.Proofs.Ytkonepeejhgloaa
open Go.RowKit
set_option linter.unusedVariables false
set_option linter.unusedSimpArgs false

def capN (v a b : Nat) : Nat := if v < a then a else if b < v then b else v
theorem capM (q : Addr) (v a b : Nat) (w : World) (hv : v ≤ 1000) (ha : a ≤ 1000) (hb : b ≤ 1000) :
    Calls Try.prog 87 #[.pointer (some q), .int .i64 v, .int .i64 a, .int .i64 b] w fun e w' => e = .returned (.int .i64 (capN v a b : Nat)) ∧ w = w' := by
  by_cases h1 : v < a
  · have h1' : (v : Int) < (a : Int) := by omega
    go_enter Try.func87, Try.ntmps87
    go_wp2_with fail
    go_ret
    exact ⟨by simp [capN, h1], rfl⟩
  · have h1' : ¬ (v : Int) < (a : Int) := by omega
    by_cases h2 : b < v
    · have h2' : (b : Int) < (v : Int) := by omega
      go_enter Try.func87, Try.ntmps87
      go_wp2_with fail
      go_ret
      exact ⟨by simp [capN, h1, h2], rfl⟩
    · have h2' : ¬ (b : Int) < (v : Int) := by omega
      go_enter Try.func87, Try.ntmps87
      go_wp2_with fail
      go_ret
      exact ⟨by simp [capN, h1, h2], rfl⟩

/-- The black places of a block, as far as row yy, column xx of it. -/
def blkTo (D : Nat → Nat → Bool) (xo yo yy xx : Nat) : Nat → Nat → Bool := fun x y =>
  D x y && decide (xo ≤ x ∧ x < xo + 8 ∧ yo ≤ y ∧ (y < yo + yy ∨ (y = yo + yy ∧ x < xo + xx)))
theorem blkTo_zero (D : Nat → Nat → Bool) (xo yo x y : Nat) : blkTo D xo yo 0 0 x y = false := by
  unfold blkTo
  rw [decide_eq_false (by omega), Bool.and_false]
theorem blkTo_row (D : Nat → Nat → Bool) (xo yo yy x y : Nat) : blkTo D xo yo yy 8 x y = blkTo D xo yo (yy + 1) 0 x y := by
  unfold blkTo
  congr 1
  exact decide_eq_decide.2 (by omega)
theorem blkTo_next (D : Nat → Nat → Bool) (xo yo yy xx : Nat) (hx : xx < 8) {b : Bool} (hb : D (xo + xx) (yo + yy) = b) (x y : Nat) :
    blkTo D xo yo yy (xx + 1) x y = if x = xo + xx ∧ y = yo + yy then b else blkTo D xo yo yy xx x y := by
  unfold blkTo
  by_cases h : x = xo + xx ∧ y = yo + yy
  · rw [if_pos h, h.1, h.2, hb, decide_eq_true (by omega), Bool.and_true]
  · rw [if_neg h]
    congr 1
    exact decide_eq_decide.2 (by omega)

def ThrOut (C q2 g2 W H rs : Nat) (B : Nat → Nat → Bool) (w : World) (e : Ending) (w' : World) : Prop :=
  ∃ ws, e = .returned (.tuple #[]) ∧ IsMat w' q2 g2 93 87 W H rs ws B ∧ Below C w w'

set_option maxRecDepth 20000 in
set_option maxHeartbeats 16000000 in
theorem thresholdBlock (q : Addr) (C g n cap W H rs q2 g2 xo yo t lt : Nat) (px : Nat → Nat) (ws : List Nat) (B D : Nat → Nat → Bool) (w : World) (hM : IsMat w q2 g2 93 87 W H rs ws B) (hO : ∀ k, k < n → w.cell? ⟨g, k, none⟩ = some (.int .u8 (px k : Nat))) (hg : g < C) (hC : C ≤ g2) (hCs : C ≤ w.heap.size)
    (hn : n = W * H) (hW2 : W ≤ 120) (hH2 : H ≤ 120) (hxo : xo + 8 ≤ W) (hyo : yo + 8 ≤ H) (ht : t < lt) (hlt : lt ≤ 255) (hrs : rs ≤ 32) (hpx : ∀ x y, x < W → y < H → px (y * W + x) = if D x y then 0 else lt) :
    Calls Try.prog 88 #[.pointer (some q), .slice (some ⟨g, 0, none⟩) n cap, .int .i64 xo, .int .i64 yo, .int .i64 t, .int .i64 W, .pointer (some ⟨q2, 0, none⟩)] w (ThrOut C q2 g2 W H rs (fun x y => B x y || blkTo D xo yo 8 0 x y) w) := by
  have hnb : n ≤ 120 * 120 := by rw [hn]; exact Nat.mul_le_mul hW2 hH2
  obtain ⟨O, hOO⟩ : ∃ O : Nat → Nat, O = fun t => yo * W + xo + t * W := ⟨_, rfl⟩
  have hyW : yo * W ≤ 112 * 120 := Nat.mul_le_mul (by omega) hW2
  have HO0 := hid (show ((yo * W : Nat) : Int) + (xo : Int) = ((O 0 : Nat) : Int) from by rw [hOO]; simp)
  have HOS := hid (fun t => show ((O t : Nat) : Int) + (W : Int) = ((O (t + 1) : Nat) : Int) from by
    rw [hOO]; simp only [Nat.add_mul, Nat.one_mul]; omega)
  have HOB := hid (fun t (ht : t < 8) => show O t + 8 ≤ n from by
    rw [hOO, hn]
    have := Nat.mul_le_mul_right W (show yo + t + 1 ≤ H by omega)
    rw [Nat.add_mul, Nat.add_mul, Nat.one_mul, Nat.mul_comm H W] at this
    simp only; omega)
  have HOM := hid (fun t (ht : t ≤ 9) => show O t ≤ 100000 from by
    rw [hOO]
    have := Nat.mul_le_mul ht hW2
    simp only; omega)
  have HPX := hid (fun yy xx (hy : yy < 8) (hx : xx < 8) => show px (O yy + xx) = (if D (xo + xx) (yo + yy) then 0 else lt) from by
    rw [← hpx (xo + xx) (yo + yy) (by omega) (by omega), hOO]
    simp only
    congr 1
    rw [Nat.add_mul]; omega)
  have hmul : (yo : Int) * (W : Int) = ((yo * W : Nat) : Int) := by simp
  have HO := hid hO
  have HM := hid hM
  clear hOO hpx hO hM hn
  generalize yo * W = P at *
  have ho0 := HO0.out
  have hom0 := HOM.out 0 (by omega)
  go_enter Try.func88, Try.ntmps88
  go_wp2_with fail
  go_loopw [14, 15] (fun yv ov wr => ∃ (yy : Nat) (ws : List Nat), yy ≤ 8 ∧ yv = .int .i64 (yy : Nat) ∧ ov = .int .i64 (O yy : Nat) ∧ Hid (IsMat wr q2 g2 93 87 W H rs ws (fun x y => B x y || blkTo D xo yo yy 0 x y)) ∧ Hid (Below C w wr)) (fun yv _ _ => 8 - (intOf yv).toNat)
  case atStart => exact ⟨0, ws, by omega, rfl, rfl, hid (HM.out.congr (fun x y _ _ => by rw [blkTo_zero, Bool.or_false])), hid (Below.refl _ _)⟩
  case round =>
    clear ho0 hom0 HM
    obtain ⟨yy, ws1, hyy, rfl, rfl, HM, HB⟩ := hrel
    by_cases hyl : yy < 8
    · have hyl' : (yy : Int) < 8 := by omega
      have hob := HOB.out yy hyl
      have hos := HOS.out yy
      have hom := HOM.out (yy + 1) (by omega)
      have HPY := hid (fun xx hx => HPX.out yy xx hyl hx)
      generalize hOy : O yy = oy at *
      generalize hOy1 : O (yy + 1) = oy1 at *
      have HOY1 := hid hOy1
      clear hOy hOy1
      go_wp2_with fail
      go_loopw [16] (fun kv wr => ∃ (xx : Nat) (ws : List Nat), xx ≤ 8 ∧ kv = .int .i64 (xx : Nat) ∧ Hid (IsMat wr q2 g2 93 87 W H rs ws (fun x y => B x y || blkTo D xo yo yy xx x y)) ∧ Hid (Below C w wr)) (fun kv _ => 8 - (intOf kv).toNat)
      case atStart => exact ⟨0, ws1, by omega, rfl, HM, HB⟩
      case round =>
        clear HM HB
        obtain ⟨xx, ws2, hxx, rfl, HM, HB⟩ := hrel
        by_cases hxl : xx < 8
        · have hxl' : (xx : Int) < 8 := by omega
          have ck := (HB.out.cell (p := ⟨g, oy + xx, none⟩) hg).trans (HO.out (oy + xx) (by omega))
          have hp := HPY.out xx hxl
          generalize px (oy + xx) = p at *
          have hix : (oy : Int) + (xx : Int) < (n : Int) := by omega
          have hit : ((oy : Int) + (xx : Int)).toNat = oy + xx := by omega
          have hxr : xo + xx < 32 * rs := by have := HM.out.wr; omega
          have sb := setBit q2 g2 W H rs (xo + xx) (yo + yy) ws2 _ wr HM.out hxr (by omega) (by omega) hrs
          have HSH := hid (HM.out.sh.setOn hxr (show yo + yy < H by omega))
          have HNX := hid (fun (b : Bool) (hb : D (xo + xx) (yo + yy) = b) => blkTo_next D xo yo yy xx hxl hb)
          have ex : ((xo + xx : Nat) : Int) = (xo : Int) + (xx : Int) := by omega
          have ey : ((yo + yy : Nat) : Int) = (yo : Int) + (yy : Int) := by omega
          rw [ex, ey] at sb
          clear ex ey
          cases hD : D (xo + xx) (yo + yy) with
          | true =>
            rw [hD, if_pos rfl] at hp
            have HN := hid (HNX.out true hD)
            have hp8 : p < 256 := by omega
            have hand := u8_255 p hp8
            have hle : (p : Int) ≤ (t : Int) := by omega
            clear hp HNX hD
            go_wp2_with fail
            refine sb.mono ?_
            rintro e w5 ⟨rfl, rfl⟩
            clear sb
            go_wp2_with fail
            go_roundw
            case rel =>
              refine ⟨xx + 1, _, by omega, by go_num, hid ((HM.out.put HSH.out).congr (fun x y _ _ => ?_)), hid (HB.out.setCell (by simpa using hC) _)⟩
              unfold put2
              rw [HN.out x y]
              split
              · simp
              · rfl
            case measure => simp [intOf]; omega
          | false =>
            rw [hD, if_neg (by simp)] at hp
            have HN := hid (HNX.out false hD)
            have hp8 : p < 256 := by omega
            have hand := u8_255 p hp8
            have hle : ¬ (p : Int) ≤ (t : Int) := by omega
            have HZ := hid (show blkTo D xo yo yy xx (xo + xx) (yo + yy) = false from by unfold blkTo; rw [hD, Bool.false_and])
            clear hp HNX hD sb
            go_wp2_with fail
            go_roundw
            case rel =>
              refine ⟨xx + 1, ws2, by omega, by go_num, hid (HM.out.congr (fun x y _ _ => ?_)), HB⟩
              rw [HN.out x y]
              split
              · rename_i h; rw [h.1, h.2, HZ.out]
              · rfl
            case measure => simp [intOf]; omega
        · obtain rfl : xx = 8 := by omega
          go_wp2_with fail
          go_roundw
          case rel => exact ⟨yy + 1, ws2, by omega, by go_num, by rw [HOY1.out], hid (HM.out.congr (fun x y _ _ => by rw [blkTo_row])), HB⟩
          case measure => simp [intOf]; omega
    · obtain rfl : yy = 8 := by omega
      go_wp2_with fail
      go_end0
      exact ⟨ws1, rfl, HM.out, HB.out⟩
end Go.Proofs.Ytkonepeejhgloaa
