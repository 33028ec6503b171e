/- spec.AZUsed. -/
import Derived.Test.YtliephokeafllaaGreatDoorAzI
import Derived.Test.YtliephokeafllaaGreatDoorAzV
import Derived.Test.YtliephokeafllaaGreatDoorAzJ
namespace Go.Proofs.YtliephokeafllaaGreatDoor
open Go.RowKit
set_option linter.unusedVariables false
set_option linter.unusedSimpArgs false

/-- The modules while it is told which ones layers have. -/
structure UsSt (w0 wr : World) (gp G H : Nat) (gs : Nat → Nat) (pl : List Nat) (c : Bool) (L t : Nat) (X : Nat → Nat → Bool) : Prop where
  up : RowsUp wr G 23 4 H H gs (brow X H)
  used : UsedTo c L t X
  pls : Arr wr gp 3 (ints pl)
  bl : Below w0.heap.size w0 wr
structure UsSep (n0 gp G H : Nat) (gs : Nat → Nat) : Prop where
  a : gp < G
  b : ∀ r, r < H → G < gs r
  e : n0 ≤ gp
theorem UsSt.drewN {w0 wr : World} {gp G H : Nat} {gs : Nat → Nat} {pl : List Nat} {c : Bool} {L t : Nat} {X : Nat → Nat → Bool} (h : UsSt w0 wr gp G H gs pl c L t X) (n : Nat) :
    UsSt w0 (wr.drewN n) gp G H gs pl c L t X := ⟨h.up.drewN n, h.used, h.pls, below_drewN h.bl n⟩
theorem UsSt.step {w0 wr : World} {gp G H : Nat} {gs : Nat → Nat} {pl : List Nat} {c : Bool} {L u v : Nat} {X : Nat → Nat → Bool}
    (h : UsSt w0 wr gp G H gs pl c L (v * azSide c L + u) X) (hs : UsSep w0.heap.size gp G H gs) (hu : u < azSide c L) (hv : v < azSide c L) (hH : H = azWhole c L) :
    UsSt w0 (wr.setCell ⟨gs (azPl c L v), azPl c L u, none⟩ (.bool (decide (azEdge (azSide c L) u v < 2 * L)))) gp G H gs pl c L (v * azSide c L + u + 1) (putG X (azPl c L v) (azPl c L u) (decide (azEdge (azSide c L) u v < 2 * L))) := by
  have hy : azPl c L v < H := by rw [hH]; exact azPl_lt hv
  have b1 := hs.b _ hy
  refine ⟨(h.up.set hy).congr (fun r hr => brow_put X H _ _ _ r), h.used.next hu hv, h.pls.far (by have := hs.a; simp; omega) _, ?_⟩
  exact h.bl.setCell (by have := hs.a; have := hs.e; simp; omega) _
/-- What is handed back. -/
def UsedN (c : Bool) (L H T : Nat) (w : World) (e : Ending) (w' : World) : Prop :=
  ∃ G gs X, e = .returned (.slice (some ⟨G, 0, none⟩) H H) ∧ RowsUp w' G 23 4 H H gs (brow X H) ∧ UsedTo c L T X ∧ Below w.heap.size w w' ∧ w.heap.size ≤ G

set_option maxRecDepth 100000 in
set_option maxHeartbeats 16000000 in
theorem usedM (c : Bool) (L : Nat) (hL0 : 1 ≤ L) (hL : L ≤ 32) (w : World) :
    Calls Tryz.prog 8 #[.bool c, .int .i64 (L : Nat)] w (UsedN c L (azWhole c L) (azSide c L * azSide c L) w) := by
  have HPL := hid (placesM c L hL0 hL w)
  obtain ⟨S, hS⟩ : ∃ S, S = azSide c L := ⟨_, rfl⟩
  obtain ⟨H, hH⟩ : ∃ H, H = azWhole c L := ⟨_, rfl⟩
  have HS := hid hS
  have HH := hid hH
  have hS200 : S ≤ 200 := by rw [hS]; unfold azSide; split <;> omega
  have hH200 : H ≤ 200 := by rw [hH]; unfold azWhole azHalf; split <;> omega
  have hH1 : 1 ≤ H := by rw [hH]; unfold azWhole azHalf; split <;> omega
  unfold PlacesOut at HPL
  rw [← hS, ← hH] at HPL
  rw [← hS, ← hH]
  clear hS hH
  go_enter Tryz.func8, Tryz.ntmps8
  go_wp2_with fail
  refine HPL.out.mono ?_
  rintro e w1 ⟨gp, rfl, hA1, hB1, hgp⟩
  have HP1 := hid hA1
  have HB1 := hid hB1
  have HRN := hid (rowsNil H H w1 hH1 hH200 hH200)
  clear hA1 hB1 HPL
  go_wp2_with fail
  refine HRN.out.mono ?_
  rintro e w2 ⟨gs, rfl, hU2, hB2⟩
  have HU2 := hid hU2
  have hgp1 := HP1.out.lt
  have hz1 := HB1.out.size
  have HSP := hid (show UsSep w.heap.size gp w1.heap.size H gs from ⟨hgp1, fun r hr => (HU2.out.row r hr).2, hgp⟩)
  have HST := hid (show UsSt w w2 gp w1.heap.size H gs ((List.range S).map (azPl c L)) c L 0 noB from ⟨HU2.out, UsedTo.zero _ _ _, HP1.out.below hB2 hgp1, HB1.out.trans (hB2.mono hz1)⟩)
  clear hU2 hB2 HRN HU2 HP1 HB1 hgp1 hgp
  obtain ⟨G, hG⟩ : ∃ G, G = w1.heap.size := ⟨_, rfl⟩
  rw [← hG] at HST HSP hz1
  rw [← hG]
  clear hG
  go_wp2_with fail
  go_loopw [9] (fun iv wr => ∃ (y : Nat) (X : Nat → Nat → Bool), y ≤ S ∧ iv = .int .i64 (y : Nat) ∧ Hid (UsSt w wr gp G H gs ((List.range S).map (azPl c L)) c L (y * S) X)) (fun iv _ => S - (intOf iv).toNat)
  case atStart => exact ⟨0, noB, by omega, rfl, hid (by rw [Nat.zero_mul]; exact HST.out)⟩
  case round =>
    clear HST
    obtain ⟨y, X, hy, rfl, HST⟩ := hrel
    by_cases hyS : y < S
    case neg =>
      obtain rfl : y = S := by omega
      have hy' : ¬ (y : Int) < (y : Int) := by omega
      go_wp2_with fail
      go_ret
      exact ⟨G, gs, X, rfl, HST.out.up, HST.out.used, HST.out.bl, hz1⟩
    case pos =>
    have hy' : (y : Int) < (S : Int) := by omega
    go_wp2_with fail
    obtain ⟨wk, rfl⟩ : ∃ wk : World, wk = wr := ⟨_, rfl⟩
    go_loopw [10] (fun iv wr => ∃ (x : Nat) (X : Nat → Nat → Bool), x ≤ S ∧ iv = .int .i64 (x : Nat) ∧ Hid (UsSt w wr gp G H gs ((List.range S).map (azPl c L)) c L (y * S + x) X)) (fun iv _ => S - (intOf iv).toNat)
    case atStart => exact ⟨0, X, by omega, rfl, HST⟩
    case round =>
      clear HST
      obtain ⟨x, X, hx, rfl, HST⟩ := hrel
      by_cases hxS : x < S
      case neg =>
        obtain rfl : x = S := by omega
        have hx' : ¬ (x : Int) < (x : Int) := by omega
        go_wp2_with fail
        go_roundw
        case rel => exact ⟨y + 1, X, by omega, by go_num, hid (by rw [Nat.succ_mul]; exact HST.out)⟩
        case measure => simp [intOf]; omega
      case pos =>
      have hx' : (x : Int) < (S : Int) := by omega
      obtain ⟨m1, hm1⟩ : ∃ m, m = min x (S - 1 - x) := ⟨_, rfl⟩
      obtain ⟨m2, hm2⟩ : ∃ m, m = min y (S - 1 - y) := ⟨_, rfl⟩
      obtain ⟨ed, hed⟩ : ∃ m, m = min m1 m2 := ⟨_, rfl⟩
      have i1 : (if (S : Int) - 1 - (x : Int) < (x : Int) then (S : Int) - 1 - (x : Int) else (x : Int)) = (m1 : Nat) := by split <;> omega
      have i2 : (if (S : Int) - 1 - (y : Int) < (y : Int) then (S : Int) - 1 - (y : Int) else (y : Int)) = (m2 : Nat) := by split <;> omega
      have HEE := hid (show azEdge S x y = ed by rw [hed, hm1, hm2]; rfl)
      have hed3 : m2 < m1 ∧ ed = m2 ∨ m1 ≤ m2 ∧ ed = m1 := by omega
      have hed2 : ed ≤ 200 := by omega
      clear hm1 hm2 hed
      have pc := fun u (hu : u < S) => HST.out.pls.cell u (by rw [ints_len, List.length_map, List.length_range]; exact hu)
      have pc2 := fun u (hu : u < S) => show wr.cell? ⟨gp, u, none⟩ = some (.int .i64 (azPl c L u : Nat)) from by rw [pc u hu]; simp [ints]
      have p1 := pc2 x hxS
      have p2 := pc2 y hyS
      have hpy : azPl c L y < H := by rw [HH.out]; exact azPl_lt (by rw [← HS.out]; exact hyS)
      have hpx : azPl c L x < H := by rw [HH.out]; exact azPl_lt (by rw [← HS.out]; exact hxS)
      have ctop := HST.out.up.top.cell (azPl c L y) (by simp; omega)
      rw [List.getElem_append_left (by simp; exact hpy)] at ctop
      simp only [List.getElem_map, List.getElem_range, brow_len] at ctop
      obtain ⟨cv, hcv⟩ := (HST.out.up.row _ hpy).1.has (azPl c L x) (by rw [brow_len]; exact hpx)
      have fz := (HST.out.up.row _ hpy).1.frozen (azPl c L x)
      have HSTEP := hid (fun m => UsSt.step (c := c) (L := L) (u := x) (v := y) (by rw [← HS.out]; exact HST.out.drewN m) HSP.out (by rw [← HS.out]; exact hxS) (by rw [← HS.out]; exact hyS) HH.out)
      rw [← HS.out, HEE.out] at HSTEP
      generalize azPl c L x = px at *
      generalize azPl c L y = py at *
      have hpy' : (py : Int) < (H : Int) := by omega
      have hpx' : (px : Int) < (H : Int) := by omega
      have g1 : IntKind.i64.wrap (2 * (L : Int)) = 2 * (L : Int) := IntWalk.i64_in _ (by omega)
      clear pc pc2 HEE HST
      rcases hed3 with ⟨h12, h13⟩ | ⟨h12, h13⟩
      all_goals
        by_cases hel : ed < 2 * L
      all_goals
        subst h13
      · have h12' : (ed : Int) < (m1 : Int) := by omega
        have hel' : (ed : Int) < 2 * (L : Int) := by omega
        rw [decide_eq_true hel] at HSTEP
        go_wp2_with fail
        go_region
        all_goals (
          go_wp2_with fail
          go_roundw
          case rel => exact ⟨x + 1, _, by omega, by go_num, hid (HSTEP.out _)⟩
          case measure => simp [intOf]; omega)
      · have h12' : (ed : Int) < (m1 : Int) := by omega
        have hel' : ¬ (ed : Int) < 2 * (L : Int) := by omega
        rw [decide_eq_false hel] at HSTEP
        go_wp2_with fail
        go_region
        all_goals (
          go_wp2_with fail
          go_roundw
          case rel =>
            refine ⟨x + 1, putG X py px false, by omega, by go_num, hid ?_⟩
            have h9 := HSTEP.out 1
            have hel2 : ¬ (ed : Int) < 2 * (L : Int) := by omega
            try simp only [hel2, decide_false]
            exact h9
          case measure => simp [intOf]; omega)
      · have h12' : ¬ (m2 : Int) < (ed : Int) := by omega
        have hel' : (ed : Int) < 2 * (L : Int) := by omega
        rw [decide_eq_true hel] at HSTEP
        go_wp2_with fail
        go_region
        all_goals (
          go_wp2_with fail
          go_roundw
          case rel => exact ⟨x + 1, _, by omega, by go_num, hid (HSTEP.out _)⟩
          case measure => simp [intOf]; omega)
      · have h12' : ¬ (m2 : Int) < (ed : Int) := by omega
        have hel' : ¬ (ed : Int) < 2 * (L : Int) := by omega
        rw [decide_eq_false hel] at HSTEP
        go_wp2_with fail
        go_region
        all_goals (
          go_wp2_with fail
          go_roundw
          case rel =>
            refine ⟨x + 1, putG X py px false, by omega, by go_num, hid ?_⟩
            have h9 := HSTEP.out 1
            have hel2 : ¬ (ed : Int) < 2 * (L : Int) := by omega
            try simp only [hel2, decide_false]
            exact h9
          case measure => simp [intOf]; omega)
end Go.Proofs.YtliephokeafllaaGreatDoor
