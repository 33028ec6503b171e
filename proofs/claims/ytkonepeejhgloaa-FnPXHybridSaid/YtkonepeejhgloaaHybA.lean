/- gozxing.HybridBinarizer.calculateBlackPoints over pixels of two grays, the darker one black: all bounds lie below the lighter one. -/
import Derived.Test.YtkonepeejhgloaaHybL
import Derived.Test.YtkonepeejhgloaaRowG
import Derived.Deep.LoopGhost
import Derived.Deep.CutRange
namespace Go.Proofs.Ytkonepeejhgloaa
open Go.RowKit
set_option linter.unusedVariables false
set_option linter.unusedSimpArgs false

theorem info69 : (Try.prog.info? 69).map (fun i => (i.zero, i.size, i.bytes)) = some (some (.slice none 0 0), 1, 24) := by kernel_rfl
/-- Rows of bounds in new memory, all below lt. -/
def BpOut (sw sh lt : Nat) (w : World) (e : Ending) (w' : World) : Prop :=
  ∃ (G : Nat) (F : Nat → Nat → Nat), e = .returned (.slice (some ⟨G, 0, none⟩) sh sh) ∧ (∀ r c, F r c < lt) ∧ RdRows w' (some ⟨G, 0, none⟩) sh (bpRow F sw) ∧ Below w.heap.size w w'

set_option maxRecDepth 20000 in
set_option maxHeartbeats 40000000 in
theorem blackPoints (q : Addr) (g n cap W H sw sh lt : Nat) (px : Nat → Nat) (w : World) (hO : ∀ k, k < n → w.cell? ⟨g, k, none⟩ = some (.int .u8 (px k : Nat))) (hg : g < w.heap.size)
    (hn : n = W * H) (hW1 : 40 ≤ W) (hW2 : W ≤ 120) (hH1 : 40 ≤ H) (hH2 : H ≤ 120) (hsw : sw = (W + 7) / 8) (hsh : sh = (H + 7) / 8) (hl0 : 25 ≤ lt) (hl1 : lt ≤ 255) (hpx : ∀ k, k < n → px k = 0 ∨ px k = lt) :
    Calls Try.prog 85 #[.pointer (some q), .slice (some ⟨g, 0, none⟩) n cap, .int .i64 sw, .int .i64 sh, .int .i64 W, .int .i64 H] w (BpOut sw sh lt w) := by
  obtain ⟨i1, hi1, hy0, hy1, hy2⟩ := info_of info69
  obtain ⟨i4, hi4, hb0, hb1, hb2⟩ := info_of info3
  have hsw1 : 5 ≤ sw := by omega
  have hsw2 : sw ≤ 15 := by omega
  have hsh1 : 5 ≤ sh := by omega
  have hsh2 : sh ≤ 15 := by omega
  have hmk := fun W => run_make (P := Try.prog) W 136 69 i1 (.slice none 0 0) Try.underlying136 hi1 hy0 .i64 .i64 (sh : Int) (sh : Int) (by omega) (by omega) (by rw [hy2]; omega) (by omega)
  simp only [hy1] at hmk
  have hmk2 := fun W' => run_make (P := Try.prog) W' 69 3 i4 (.int .i64 0) Try.underlying69 hi4 hb0 .i64 .i64 (sw : Int) (sw : Int) (by omega) (by omega) (by rw [hb2]; omega) (by omega)
  simp only [hb1] at hmk2
  have hnb : n ≤ 120 * 120 := by rw [hn]; exact Nat.mul_le_mul hW2 hH2
  have HO := hid hO
  have HN := hid hn
  have HPX := hid hpx
  clear hO hn hpx hsw hsh
  go_enter Try.func85, Try.ntmps85
  go_wp2_with fail
  have HA := hid (Arr.made w 69 (.slice none 0 0) sh)
  have HB := hid (show Below w.heap.size w (w.alloc (.cells (madeCells #[.slice none 0 0] sh) 69)) from (Below.refl _ _).alloc (Nat.le_refl _) _)
  generalize w.alloc (.cells (madeCells #[.slice none 0 0] sh) 69) = w1 at *
  clear hmk
  go_loopg [16] sh (fun gk iv wr => ∃ (y : Nat) (gs : Nat → Nat) (F : Nat → Nat → Nat), y ≤ sh ∧ gk = sh - y ∧ iv = .int .i64 (y : Nat) ∧ Hid (RowsUp wr w.heap.size 69 3 sh y gs (bpRow F sw)) ∧ Hid (∀ r c, F r c < lt) ∧ Hid (Below w.heap.size w wr))
  case atStart => exact ⟨0, fun _ => 0, fun _ _ => 0, by omega, by omega, rfl, hid (RowsUp.zero HA.out), hid (fun _ _ => by show 0 < lt; omega), HB⟩
  case round =>
    clear HA HB
    obtain ⟨y, gs, F, hy, hgk, rfl, HU, HF, HB⟩ := hrel
    by_cases hlt : y < sh
    · have hlt' : (y : Int) < (sh : Int) := by omega
      have htop := HU.out.top.alloc (.cells (madeCells #[.int .i64 0] sw) 3)
      obtain ⟨v0, hv0⟩ := htop.has y (by simp; omega)
      have fz := htop.frozen y
      have hGl := HU.out.top.lt
      have HG1 := hid (show Arr ((wr.setCell ⟨w.heap.size, y, none⟩ (.slice (some ⟨wr.heap.size, 0, none⟩) sw sw)).alloc (.cells (madeCells #[.int .i64 0] sw) 3)) wr.heap.size 3 (List.replicate sw (.int .i64 0)) from by have := Arr.made (wr.setCell ⟨w.heap.size, y, none⟩ (.slice (some ⟨wr.heap.size, 0, none⟩) sw sw)) 3 (.int .i64 0) sw; rwa [World.size_setCell] at this)
      have HBB := hid (show Below w.heap.size w ((wr.setCell ⟨w.heap.size, y, none⟩ (.slice (some ⟨wr.heap.size, 0, none⟩) sw sw)).alloc (.cells (madeCells #[.int .i64 0] sw) 3)) from (HB.out.setCell (by simp) _).alloc (by rw [World.size_setCell]; exact HB.out.size) _)
      have HU1 := hid (HU.out.next (cs := madeCells #[.int .i64 0] sw) (m := sw) (x := List.replicate sw (.int .i64 0)) hlt (by simp) (Below.refl _ _) HG1.out)
      have HU2 := hid (HU1.out.congr (Y := bpRow (rowZ F y) sw) (fun r hr => (bpRow_new F sw y r).symm))
      have HF2 : Hid (∀ r c, rowZ F y r c < lt) := hid (fun r c => by
        unfold rowZ
        split
        · omega
        · exact HF.out r c)
      obtain ⟨yo, hyo⟩ : ∃ yo, yo = blk y H := ⟨_, rfl⟩
      have hyo2 : yo + 8 ≤ H := by rw [hyo]; exact blk_le (by omega)
      have hyo3 : (yo : Int) = (if (H : Int) - 8 < (y : Int) * 8 then (H : Int) - 8 else (y : Int) * 8) := by
        rw [hyo]; unfold blk; split <;> omega
      have HYO := hid hyo3
      clear htop HG1 HU1 HU HF HB hyo hyo3
      go_upto_if 50 with fail
      generalize (wr.setCell ⟨w.heap.size, y, none⟩ (.slice (some ⟨wr.heap.size, 0, none⟩) sw sw)).alloc (.cells (madeCells #[.int .i64 0] sw) 3) = w2 at *
      generalize put gs y wr.heap.size = gs2 at *
      generalize rowZ F y = F2 at *
      clear hv0 fz
      go_cut [17] from 36 to 181 (fun v wx => v = .int .i64 (yo : Nat) ∧ w2 = wx)
      case first =>
        by_cases h : (H : Int) - 8 < (y : Int) * 8
        all_goals (
          go_wp2_with fail
          go_meet
          case rel => exact ⟨by rw [HYO.out]; congr 1; split <;> omega, rfl⟩)
      case rest =>
        obtain ⟨rfl, rfl⟩ := hcut
        clear HYO
        go_wp2_with fail
        go_loopg [18] sw (fun gk iv wr => ∃ (x : Nat) (F : Nat → Nat → Nat), x ≤ sw ∧ gk = sw - x ∧ iv = .int .i64 (x : Nat) ∧ Hid (RowsUp wr w.heap.size 69 3 sh (y + 1) gs2 (bpRow F sw)) ∧ Hid (∀ r c, F r c < lt) ∧ Hid (Below w.heap.size w wr))
        case atStart => exact ⟨0, F2, by omega, by omega, rfl, HU2, HF2, HBB⟩
        case round =>
          clear HU2 HF2 HBB
          obtain ⟨x, F, hx, hgk2, rfl, HU, HF, HB⟩ := hrel
          by_cases hlt2 : x < sw
          · have hlt2' : (x : Int) < (sw : Int) := by omega
            obtain ⟨xo, hxo⟩ : ∃ xo, xo = blk x W := ⟨_, rfl⟩
            have hxo2 : xo + 8 ≤ W := by rw [hxo]; exact blk_le (by omega)
            have hxo3 : (xo : Int) = (if (W : Int) - 8 < (x : Int) * 8 then (W : Int) - 8 else (x : Int) * 8) := by
              rw [hxo]; unfold blk; split <;> omega
            have HXO := hid hxo3
            clear hxo hxo3
            go_upto_if 61 with fail
            obtain ⟨wq, hwq⟩ : ∃ wq, wq = wr := ⟨_, rfl⟩
            subst hwq
            go_cut [19] from 52 to 181 (fun v wx => v = .int .i64 (xo : Nat) ∧ wq = wx)
            case first =>
              by_cases h : (W : Int) - 8 < (x : Int) * 8
              all_goals (
                go_wp2_with fail
                go_meet
                case rel => exact ⟨by rw [HXO.out]; congr 1; split <;> omega, rfl⟩)
            case rest =>
              obtain ⟨rfl, rfl⟩ := hcut
              clear HXO
              obtain ⟨O, hOO⟩ : ∃ O : Nat → Nat, O = fun t => yo * W + xo + t * W := ⟨_, rfl⟩
              have hyW : yo * W ≤ 112 * 120 := Nat.mul_le_mul (by omega) hW2
              have HO0 := hid (show ((yo * W : Nat) : Int) + (xo : Int) = ((O 0 : Nat) : Int) from by rw [hOO]; simp)
              have HOS := hid (fun t => show ((O t : Nat) : Int) + (W : Int) = ((O (t + 1) : Nat) : Int) from by
                rw [hOO]; simp only [Nat.add_mul, Nat.one_mul]; omega)
              have HOB := hid (fun t (ht : t < 8) => show O t + 8 ≤ n from by
                rw [hOO, HN.out]
                have := Nat.mul_le_mul_right W (show yo + t + 1 ≤ H by omega)
                rw [Nat.add_mul, Nat.add_mul, Nat.one_mul, Nat.mul_comm H W] at this
                simp only; omega)
              have HOM := hid (fun t (ht : t ≤ 9) => show O t ≤ 100000 from by
                rw [hOO]
                have := Nat.mul_le_mul ht hW2
                simp only; omega)
              have hmul : (yo : Int) * (W : Int) = ((yo * W : Nat) : Int) := by simp
              clear hOO
              generalize yo * W = P at *
              have ho0 := HO0.out
              have hom0 := HOM.out 0 (by omega)
              go_wp2_with fail
              go_loopw [20, 21, 22, 23, 24] (fun sv nv xv yv ov wr => ∃ (yy s mn mx : Nat), yy ≤ 9 ∧ sv = .int .i64 (s : Nat) ∧ nv = .int .i64 (mn : Nat) ∧ xv = .int .i64 (mx : Nat) ∧ yv = .int .i64 (yy : Nat) ∧ ov = .int .i64 (O yy : Nat) ∧ s ≤ 16320 ∧ mn ≤ 255 ∧ mx ≤ 255 ∧ Hid ((yy ≤ 8 ∧ Scan lt (8 * yy) s mn mx ∧ ¬ mn + 24 < mx) ∨ (yy = 9 ∧ Fast lt 64 s ∧ mn = 0 ∧ mx = lt)) ∧ wq = wr) (fun _ _ _ yv _ _ => 9 - (intOf yv).toNat)
              case atStart => exact ⟨0, 0, 255, 0, by omega, rfl, rfl, rfl, rfl, rfl, by omega, by omega, by omega, hid (.inl ⟨by omega, Scan.zero lt, by omega⟩), rfl⟩
              case round =>
                clear ho0 hom0
                obtain ⟨yy, s, mn, mx, hyy, rfl, rfl, rfl, rfl, rfl, hs1, hs2, hs3, HC, rfl⟩ := hrel
                by_cases hyl : yy < 8
                · have hyl' : (yy : Int) < 8 := by omega
                  have HS := hid (show Scan lt (8 * yy + 0) s mn mx from by
                    rcases HC.out with ⟨_, h, _⟩ | ⟨h, _⟩
                    · exact h
                    · omega)
                  have hob := HOB.out yy hyl
                  have hos := HOS.out yy
                  have hom := HOM.out (yy + 1) (by omega)
                  generalize hOy : O yy = oy at *
                  generalize hOy1 : O (yy + 1) = oy1 at *
                  have HOY1 := hid hOy1
                  clear hOy hOy1 HC
                  go_wp2_with fail
                  go_loopw [20, 21, 22, 25] (fun sv nv xv kv wr => ∃ (xx s mn mx : Nat), xx ≤ 8 ∧ sv = .int .i64 (s : Nat) ∧ nv = .int .i64 (mn : Nat) ∧ xv = .int .i64 (mx : Nat) ∧ kv = .int .i64 (xx : Nat) ∧ Hid (Scan lt (8 * yy + xx) s mn mx) ∧ wq = wr) (fun _ _ _ kv _ => 8 - (intOf kv).toNat)
                  case atStart => exact ⟨0, s, mn, mx, by omega, rfl, rfl, rfl, rfl, HS, rfl⟩
                  case round =>
                    clear HS hs1 hs2 hs3
                    obtain ⟨xx, s, mn, mx, hxx, rfl, rfl, rfl, rfl, HS, rfl⟩ := hrel
                    obtain ⟨hs1, hs2, hs3⟩ := HS.out.bd hl1 (by omega)
                    by_cases hxl : xx < 8
                    · have hxl' : (xx : Int) < 8 := by omega
                      have ck := (HB.out.cell (p := ⟨g, oy + xx, none⟩) hg).trans (HO.out (oy + xx) (by omega))
                      have hp := HPX.out (oy + xx) (by omega)
                      have HS2 := hid (HS.out.step hl1 hp)
                      generalize px (oy + xx) = p at *
                      have hp8 : p < 256 := by omega
                      have hand := u8_255 p hp8
                      have hix : (oy : Int) + (xx : Int) < (n : Int) := by omega
                      have hit : ((oy : Int) + (xx : Int)).toNat = oy + xx := by omega
                      by_cases h1 : p < mn
                      · have h1' : (p : Int) < (mn : Int) := by omega
                        rw [if_pos h1] at HS2
                        by_cases h2 : mx < p
                        · have h2' : (mx : Int) < (p : Int) := by omega
                          rw [if_pos h2] at HS2
                          go_wp2_with fail
                          go_roundw
                          case rel => exact ⟨xx + 1, s + p, p, p, by omega, by go_num, rfl, rfl, by go_num, HS2, by first | rfl | trivial⟩
                          case measure => simp [intOf]; omega
                        · have h2' : ¬ (mx : Int) < (p : Int) := by omega
                          rw [if_neg h2] at HS2
                          go_wp2_with fail
                          go_roundw
                          case rel => exact ⟨xx + 1, s + p, p, mx, by omega, by go_num, rfl, rfl, by go_num, HS2, by first | rfl | trivial⟩
                          case measure => simp [intOf]; omega
                      · have h1' : ¬ (p : Int) < (mn : Int) := by omega
                        rw [if_neg h1] at HS2
                        by_cases h2 : mx < p
                        · have h2' : (mx : Int) < (p : Int) := by omega
                          rw [if_pos h2] at HS2
                          go_wp2_with fail
                          go_roundw
                          case rel => exact ⟨xx + 1, s + p, mn, p, by omega, by go_num, rfl, rfl, by go_num, HS2, by first | rfl | trivial⟩
                          case measure => simp [intOf]; omega
                        · have h2' : ¬ (mx : Int) < (p : Int) := by omega
                          rw [if_neg h2] at HS2
                          go_wp2_with fail
                          go_roundw
                          case rel => exact ⟨xx + 1, s + p, mn, mx, by omega, by go_num, rfl, rfl, by go_num, HS2, by first | rfl | trivial⟩
                          case measure => simp [intOf]; omega
                    · obtain rfl : xx = 8 := by omega
                      by_cases hg24 : mn + 24 < mx
                      · have hg24' : (24 : Int) < (mx : Int) - (mn : Int) := by omega
                        obtain ⟨hF, hmn, hmx⟩ := HS.out.fast hl1 hg24
                        have HFA := hid hF
                        have HMN := hid hmn
                        have HMX := hid hmx
                        clear hF hmn hmx HS
                        go_wp2_with fail
                        go_loopw [20, 23, 24] (fun sv yv ov wr => ∃ (y2 s : Nat), yy + 1 ≤ y2 ∧ y2 ≤ 8 ∧ sv = .int .i64 (s : Nat) ∧ yv = .int .i64 (y2 : Nat) ∧ ov = .int .i64 (O y2 : Nat) ∧ Hid (Fast lt (8 * y2) s) ∧ wq = wr) (fun _ yv _ _ => 8 - (intOf yv).toNat)
                        case atStart => exact ⟨yy + 1, s, by omega, by omega, rfl, by go_num, by rw [HOY1.out], HFA, rfl⟩
                        case round =>
                          clear HFA hs1 hs2 hs3 hob hos hom
                          obtain ⟨y2, s, hy2a, hy2b, rfl, rfl, rfl, HFA, rfl⟩ := hrel
                          have hs1 := HFA.out.bd hl1 (by omega)
                          have hos := HOS.out y2
                          have hom := HOM.out (y2 + 1) (by omega)
                          have HOP := hid (show ∃ z, z = O (y2 + 1) from ⟨_, rfl⟩)
                          by_cases hy2 : y2 < 8
                          · have hy2' : (y2 : Int) < 8 := by omega
                            have hob := HOB.out y2 hy2
                            have HFB := hid (show Fast lt (8 * y2 + 0) s from HFA.out)
                            generalize hO2 : O y2 = o2 at *
                            generalize hO3 : O (y2 + 1) = o3 at *
                            have HO3 := hid hO3
                            clear hO2 hO3 HFA HOP
                            go_wp2_with fail
                            go_loopw [20, 27] (fun sv kv wr => ∃ (xx s : Nat), xx ≤ 8 ∧ sv = .int .i64 (s : Nat) ∧ kv = .int .i64 (xx : Nat) ∧ Hid (Fast lt (8 * y2 + xx) s) ∧ wq = wr) (fun _ kv _ => 8 - (intOf kv).toNat)
                            case atStart => exact ⟨0, s, by omega, rfl, rfl, HFB, rfl⟩
                            case round =>
                              clear HFB hs1
                              obtain ⟨xx, s, hxx, rfl, rfl, HFA, rfl⟩ := hrel
                              have hs1 := HFA.out.bd hl1 (by omega)
                              by_cases hxl : xx < 8
                              · have hxl' : (xx : Int) < 8 := by omega
                                have ck := (HB.out.cell (p := ⟨g, o2 + xx, none⟩) hg).trans (HO.out (o2 + xx) (by omega))
                                have hp := HPX.out (o2 + xx) (by omega)
                                have HS2 : Hid (Fast lt (8 * y2 + xx + 1) (s + px (o2 + xx))) := hid (Fast.step hp HFA.out)
                                generalize px (o2 + xx) = p at *
                                have hp8 : p < 256 := by omega
                                have hand := u8_255 p hp8
                                have hix : (o2 : Int) + (xx : Int) < (n : Int) := by omega
                                have hit : ((o2 : Int) + (xx : Int)).toNat = o2 + xx := by omega
                                go_wp2_with fail
                                go_roundw
                                case rel => exact ⟨xx + 1, s + p, by omega, by go_num, by go_num, HS2, by first | rfl | trivial⟩
                                case measure => simp [intOf]; omega
                              · obtain rfl : xx = 8 := by omega
                                go_wp2_with fail
                                go_roundw
                                case rel => exact ⟨y2 + 1, s, by omega, by omega, rfl, by go_num, by rw [HO3.out], HFA, by first | rfl | trivial⟩
                                case measure => simp [intOf]; omega
                          · obtain rfl : y2 = 8 := by omega
                            clear HOP
                            generalize hO2 : O 8 = o2 at *
                            generalize hO3 : O (8 + 1) = o3 at *
                            have HO3 := hid (show O 9 = o3 from hO3)
                            clear hO2 hO3
                            go_wp2_with fail
                            go_roundw
                            case rel => exact ⟨9, s, mn, mx, by omega, rfl, rfl, rfl, by go_num, by rw [HO3.out], hs1, by have := HMN.out; omega, by have := HMX.out; omega, hid (.inr ⟨rfl, HFA.out, HMN.out, HMX.out⟩), by first | rfl | trivial⟩
                            case measure => simp [intOf] <;> omega
                      · have hg24' : ¬ (24 : Int) < (mx : Int) - (mn : Int) := by omega
                        have HG := hid hg24
                        clear hg24
                        go_wp2_with fail
                        go_roundw
                        case rel => exact ⟨yy + 1, s, mn, mx, by omega, rfl, rfl, rfl, by go_num, by rw [HOY1.out], hs1, hs2, hs3, hid (.inl ⟨by omega, HS.out, HG.out⟩), by first | rfl | trivial⟩
                        case measure => simp [intOf]; omega
                · have hyl' : ¬ (yy : Int) < 8 := by omega
                  go_upto_if 133 with fail
                  go_cut [28] from 52 to 181 (fun v wx => ∃ av m : Nat, av < lt ∧ v = .int .i64 (av : Nat) ∧ wq.drewN m = wx)
                  case first =>
                    rcases HC.out with ⟨h8, hS, hng⟩ | ⟨h9, hF, hm0, hm1⟩
                    · obtain rfl : yy = 8 := by omega
                      obtain ⟨hav, hmn⟩ := hS.half hl0 hng
                      have hng' : (mx : Int) - (mn : Int) ≤ 24 := by omega
                      have hd2 : (mn : Int) / 2 = ((mn / 2 : Nat) : Int) := by omega
                      have HAV := hid hav
                      have HD2 := hid hd2
                      clear hS hng hav hd2
                      by_cases hy0 : y = 0
                      · have hy0' : ¬ (0 : Int) < (y : Int) := by omega
                        clear hy0
                        go_wp2_with fail
                        go_meet
                        case rel => exact ⟨mn / 2, 0, HAV.out, by rw [← HD2.out], rfl⟩
                      · have hy0' : (0 : Int) < (y : Int) := by omega
                        by_cases hx0 : x = 0
                        · have hx0' : ¬ (0 : Int) < (x : Int) := by omega
                          clear hx0
                          go_wp2_with fail
                          go_meet
                          case rel => exact ⟨mn / 2, 0, HAV.out, by rw [← HD2.out], rfl⟩
                        · have hx0' : (0 : Int) < (x : Int) := by omega
                          have t1 := HU.out.bp (r := y - 1) (by omega)
                          have t2 := HU.out.bp (r := y) (by omega)
                          rw [bpRow_len] at t1 t2
                          have r1 := ((HU.out.row (y - 1) (by omega)).1.cell? x).trans (bpRow_at F sw (y - 1) x hlt2)
                          have r2 := ((HU.out.row y (by omega)).1.cell? (x - 1)).trans (bpRow_at F sw y (x - 1) (by omega))
                          have r3 := ((HU.out.row (y - 1) (by omega)).1.cell? (x - 1)).trans (bpRow_at F sw (y - 1) (x - 1) (by omega))
                          have f1 := HF.out (y - 1) x
                          have f2 := HF.out y (x - 1)
                          have f3 := HF.out (y - 1) (x - 1)
                          have ey : (y : Int) - 1 = ((y - 1 : Nat) : Int) := by omega
                          have ex : (x : Int) - 1 = ((x - 1 : Nat) : Int) := by omega
                          have wy : IntKind.i64.wrap ((y : Int) - 1) = ((y - 1 : Nat) : Int) := by rw [ey]; exact IntWalk.i64_in _ ⟨by omega, by omega⟩
                          have wx : IntKind.i64.wrap ((x : Int) - 1) = ((x - 1 : Nat) : Int) := by rw [ex]; exact IntWalk.i64_in _ ⟨by omega, by omega⟩
                          have y1b : y - 1 < sh := by omega
                          have x1b : x - 1 < sw := by omega
                          generalize F (y - 1) x = a at *
                          generalize F y (x - 1) = b at *
                          generalize F (y - 1) (x - 1) = c at *
                          generalize gs2 (y - 1) = g1 at *
                          generalize gs2 y = g2 at *
                          generalize y - 1 = y1 at *
                          generalize x - 1 = x1 at *
                          have y1b' : (y1 : Int) < (sh : Int) := by omega
                          have x1b' : (x1 : Int) < (sw : Int) := by omega
                          have s1 : IntKind.i64.wrap ((2 : Int) * (b : Int)) = 2 * (b : Int) := IntWalk.i64_in _ ⟨by omega, by omega⟩
                          have s2 : IntKind.i64.wrap ((a : Int) + 2 * (b : Int)) = (a : Int) + 2 * (b : Int) := IntWalk.i64_in _ ⟨by omega, by omega⟩
                          have s3 : IntKind.i64.wrap ((a : Int) + 2 * (b : Int) + (c : Int)) = (a : Int) + 2 * (b : Int) + (c : Int) := IntWalk.i64_in _ ⟨by omega, by omega⟩
                          obtain ⟨q4, hq4⟩ : ∃ q4 : Nat, q4 = (a + 2 * b + c) / 4 := ⟨_, rfl⟩
                          have hq4b : q4 < lt := by omega
                          have e4 : ((a : Int) + 2 * (b : Int) + (c : Int)) / 4 = (q4 : Int) := by omega
                          clear hq4 ey ex
                          go_wp2_with fail
                          go_quiet (fail)
                          by_cases hm4 : mn < q4
                          · have hm4' : (mn : Int) < (q4 : Int) := by omega
                            go_wp2_with fail
                            go_meet
                            case rel => exact ⟨q4, _, hq4b, by first | rfl | rw [e4], rfl⟩
                          · have hm4' : ¬ (mn : Int) < (q4 : Int) := by omega
                            go_wp2_with fail
                            go_meet
                            case rel => exact ⟨mn / 2, _, HAV.out, by rw [← HD2.out], rfl⟩
                    · have hav := hF.avg hl0
                      have hd2 : (s : Int) / 64 = ((s / 64 : Nat) : Int) := by omega
                      have hg' : ¬ (mx : Int) - (mn : Int) ≤ 24 := by omega
                      have HAV := hid hav
                      have HD2 := hid hd2
                      clear hF hav hd2 hm0 hm1 h9
                      go_wp2_with fail
                      go_meet
                      case rel => exact ⟨s / 64, 0, HAV.out, by rw [← HD2.out], rfl⟩
                  case rest =>
                    obtain ⟨av, m, hav, rfl, rfl⟩ := hcut
                    have t2 : (wq.drewN m).cell? ⟨w.heap.size, y, none⟩ = some (.slice (some ⟨gs2 y, 0, none⟩) (bpRow F sw y).length (bpRow F sw y).length) := HU.out.bp (r := y) (by omega)
                    rw [bpRow_len] at t2
                    have hrow := (HU.out.row y (by omega)).1.drewN m
                    have hG2 := (HU.out.row y (by omega)).2
                    obtain ⟨v0, hv0⟩ := hrow.has x (by rw [bpRow_len]; exact hlt2)
                    have fz := hrow.frozen x
                    have HU2 := hid (((HU.out.drewN m).set (y := y) (x := x) (by omega) (v := .int .i64 (av : Nat))).congr (Y := bpRow (putF F y x av) sw) (fun r hr => by rw [← bpRow_put F sw y x av hlt2]))
                    have HF2 := hid (fun r c => show putF F y x av r c < lt from by
                      unfold putF
                      split
                      · exact hav
                      · exact HF.out r c)
                    have HB2 := hid ((below_drewN HB.out m).setCell (p := ⟨gs2 y, x, none⟩) (by simp; omega) (.int .i64 (av : Nat)))
                    clear hrow HU HF HB HC
                    generalize gs2 y = g2 at *
                    go_wp2_with fail
                    go_roundg (sw - (x + 1))
                    case measure => omega
                    case rel => exact ⟨x + 1, putF F y x av, by omega, rfl, by go_num, HU2, HF2, HB2⟩
          · obtain rfl : x = sw := by omega
            have hlt2' : ¬ (x : Int) < (x : Int) := by omega
            go_wp2_with fail
            go_roundg (sh - (y + 1))
            case measure => omega
            case rel => exact ⟨y + 1, gs2, F, by omega, rfl, by go_num, HU, HF, HB⟩
    · obtain rfl : y = sh := by omega
      have hlt' : ¬ (y : Int) < (y : Int) := by omega
      go_wp2_with fail
      go_ret
      exact ⟨w.heap.size, F, rfl, HF.out, HU.out.rd, HB.out⟩
end Go.Proofs.Ytkonepeejhgloaa
