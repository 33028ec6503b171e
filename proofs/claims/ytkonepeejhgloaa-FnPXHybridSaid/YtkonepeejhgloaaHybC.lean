/- gozxing.HybridBinarizer.calculateThresholdForBlock. -/
import Derived.Test.YtkonepeejhgloaaHybB
import Derived.Deep.LoopGhost
import Derived.Deep.CutRange
namespace Go.Proofs.Ytkonepeejhgloaa
open Go.RowKit
set_option linter.unusedVariables false
set_option linter.unusedSimpArgs false

/-- Only black places are marked, and all those of the blocks so far are. -/
def Cov (D B : Nat → Nat → Bool) (W H sw y x : Nat) : Prop :=
  (∀ a b, B a b = true → D a b = true) ∧ ∀ ky kx, (ky < y ∨ (ky = y ∧ kx < x)) → kx < sw → ∀ a b, blk kx W ≤ a → a < blk kx W + 8 → blk ky H ≤ b → b < blk ky H + 8 → D a b = true → B a b = true
section
variable {D B : Nat → Nat → Bool} {W H sw y x : Nat}
theorem Cov.zero : Cov D (fun _ _ => false) W H sw 0 0 := ⟨fun a b h => (by cases h), fun ky kx h => by omega⟩
theorem Cov.next (h : Cov D B W H sw y x) : Cov D (fun a b => B a b || blkTo D (blk x W) (blk y H) 8 0 a b) W H sw y (x + 1) := by
  refine ⟨fun a b hb => ?_, fun ky kx hk hs a b h1 h2 h3 h4 hD => ?_⟩
  · rcases (Bool.or_eq_true _ _).mp hb with h5 | h5
    · exact h.1 a b h5
    · unfold blkTo at h5; exact (Bool.and_eq_true _ _ ▸ h5 : _ ∧ _).1
  · rw [Bool.or_eq_true]
    by_cases e : ky = y ∧ kx = x
    · right
      obtain ⟨rfl, rfl⟩ := e
      unfold blkTo
      rw [hD, Bool.true_and]
      exact decide_eq_true ⟨h1, h2, h3, .inl h4⟩
    · left
      exact h.2 ky kx (by omega) hs a b h1 h2 h3 h4 hD
theorem Cov.row (h : Cov D B W H sw y sw) : Cov D B W H sw (y + 1) 0 := ⟨h.1, fun ky kx hk hs => h.2 ky kx (by omega) hs⟩
theorem Cov.all (h : Cov D B W H sw y 0) (hW : 8 ≤ W) (hH : 8 ≤ H) (hsw : sw = (W + 7) / 8) (hy : y = (H + 7) / 8) (hD : ∀ a b, D a b = true → a < W ∧ b < H) (a b : Nat) : B a b = D a b := by
  cases hd : D a b with
  | true =>
    obtain ⟨h1, h2⟩ := hD a b hd
    obtain ⟨kx, x1, x2, x3⟩ := blk_all hW h1
    obtain ⟨ky, y1, y2, y3⟩ := blk_all hH h2
    exact h.2 ky kx (.inl (by omega)) (by omega) a b x2 x3 y2 y3 hd
  | false =>
    cases hb : B a b with
    | false => rfl
    | true => rw [h.1 a b hb] at hd; cases hd
end
theorem capM2 (q : Addr) (v b : Nat) (w : World) (hv : v ≤ 1000) (hb : 2 ≤ b) (hb2 : b ≤ 1000) :
    Calls Try.prog 87 #[.pointer (some q), .int .i64 v, .int .i64 2, .int .i64 b] w fun e w' => e = .returned (.int .i64 (capN v 2 b : Nat)) ∧ w = w' := capM q v 2 b w hv (by omega) hb2
theorem capN_bd (v b : Nat) (hb : 2 ≤ b) : 2 ≤ capN v 2 b ∧ capN v 2 b ≤ b := by
  unfold capN
  split
  · omega
  · split <;> omega

set_option maxRecDepth 20000 in
set_option maxHeartbeats 40000000 in
theorem threshold (q : Addr) (C g n cap W H rs q2 g2 sw sh G lt : Nat) (F : Nat → Nat → Nat) (px : Nat → Nat) (ws : List Nat) (D : Nat → Nat → Bool) (w : World) (hM : IsMat w q2 g2 93 87 W H rs ws (fun _ _ => false)) (hO : ∀ k, k < n → w.cell? ⟨g, k, none⟩ = some (.int .u8 (px k : Nat))) (hg : g < C) (hC : C ≤ g2) (hCs : C ≤ w.heap.size)
    (hR : ∃ w0, RdRows w0 (some ⟨G, 0, none⟩) sh (bpRow F sw) ∧ Below w0.heap.size w0 w ∧ w0.heap.size = C) (hF : ∀ r c, F r c < lt)
    (hn : n = W * H) (hW1 : 40 ≤ W) (hW2 : W ≤ 120) (hH1 : 40 ≤ H) (hH2 : H ≤ 120) (hsw : sw = (W + 7) / 8) (hsh : sh = (H + 7) / 8) (hlt0 : 25 ≤ lt) (hlt : lt ≤ 255) (hrs : rs ≤ 32) (hpx : ∀ x y, x < W → y < H → px (y * W + x) = if D x y then 0 else lt) (hD : ∀ a b, D a b = true → a < W ∧ b < H) :
    Calls Try.prog 86 #[.pointer (some q), .slice (some ⟨g, 0, none⟩) n cap, .int .i64 sw, .int .i64 sh, .int .i64 W, .int .i64 H, .slice (some ⟨G, 0, none⟩) sh sh, .pointer (some ⟨q2, 0, none⟩)] w (ThrOut C q2 g2 W H rs D w) := by
  have hsw1 : 5 ≤ sw := by omega
  have hsw2 : sw ≤ 15 := by omega
  have hsh1 : 5 ≤ sh := by omega
  have hsh2 : sh ≤ 15 := by omega
  obtain ⟨w0, hR0, hb0, hsz⟩ := hR
  obtain ⟨bG, oG, Rr, Cr, hAG, hbG, hX⟩ := hR0.opened (by omega)
  injection hAG with hAG
  simp only [Addr.mk.injEq, and_true] at hAG
  obtain ⟨rfl, rfl⟩ := hAG
  have HX := hid (fun W' (hw : Below C w W') k (hk : k < sh) => show W'.cell? ⟨G, k, none⟩ = some (.slice (Rr k) sw (Cr k)) ∧ Rd W' (Rr k) sw (bpRow F sw k) from by
    have := hX W' (hb0.trans (by rw [hsz]; exact hw)) k hk
    rw [bpRow_len, Nat.zero_add] at this
    exact ⟨this.1, this.2.1⟩)
  have tb := fun xo yo t ws B W' (hM : IsMat W' q2 g2 93 87 W H rs ws B) (hw : Below C w W') (hxo : xo + 8 ≤ W) (hyo : yo + 8 ≤ H) (ht : t < lt) => thresholdBlock q C g n cap W H rs q2 g2 xo yo t lt px ws B D W' hM (fun k hk => (hw.cell (p := ⟨g, k, none⟩) hg).trans (hO k hk)) hg hC (by have := hw.size; omega) hn hW2 hH2 hxo hyo ht hlt hrs hpx
  have TB := hid tb
  have HF := hid hF
  have HM := hid hM
  have HD := hid hD
  have HSW := hid hsw
  have HSH := hid hsh
  clear tb hX hR0 hb0 hbG hF hM hO hpx hD hsw hsh hn hsz
  go_enter Try.func86, Try.ntmps86
  go_wp2_with fail
  go_loopg [18] sh (fun gk iv wr => ∃ (y : Nat) (ws : List Nat) (B : Nat → Nat → Bool), y ≤ sh ∧ gk = sh - y ∧ iv = .int .i64 (y : Nat) ∧ Hid (IsMat wr q2 g2 93 87 W H rs ws B) ∧ Hid (Cov D B W H sw y 0) ∧ Hid (Below C w wr))
  case atStart => exact ⟨0, ws, _, by omega, by omega, rfl, HM, hid Cov.zero, hid (Below.refl _ _)⟩
  case round =>
    clear HM
    obtain ⟨y, ws1, B, hy, hgk, rfl, HM, HCV, HB⟩ := hrel
    by_cases hlt1 : y < sh
    · have hlt' : (y : Int) < (sh : Int) := by omega
      obtain ⟨yo, hyo⟩ : ∃ yo, yo = blk y H := ⟨_, rfl⟩
      have hyo2 : yo + 8 ≤ H := by rw [hyo]; exact blk_le (by omega)
      have hyo3 : (yo : Int) = (if (H : Int) - 8 < (y : Int) * 8 then (H : Int) - 8 else (y : Int) * 8) := by
        rw [hyo]; unfold blk; split <;> omega
      have HYO := hid hyo3
      have HYE := hid hyo
      clear hyo hyo3
      go_upto_if 41 with fail
      obtain ⟨wq, hwq⟩ : ∃ wq, wq = wr := ⟨_, rfl⟩
      subst hwq
      go_cut [19] from 32 to 113 (fun v wx => v = .int .i64 (yo : Nat) ∧ wq = wx)
      case first =>
        by_cases h : (H : Int) - 8 < (y : Int) * 8
        all_goals (
          go_wp2_with fail
          go_meet
          case rel => exact ⟨by rw [HYO.out]; congr 1; split <;> omega, rfl⟩)
      case rest =>
        obtain ⟨rfl, rfl⟩ := hcut
        clear HYO
        have cy := capM2 q y (sh - 3) wq (by omega) (by omega) (by omega)
        rw [show ((sh - 3 : Nat) : Int) = (sh : Int) - 3 from by omega] at cy
        obtain ⟨tp1, tp2⟩ := capN_bd y (sh - 3) (by omega)
        generalize capN y 2 (sh - 3) = tp at *
        go_wp2_with fail
        refine cy.mono ?_
        rintro e w1 ⟨rfl, rfl⟩
        clear cy
        go_wp2_with fail
        go_loopg [21] sw (fun gk iv wr => ∃ (x : Nat) (ws : List Nat) (B : Nat → Nat → Bool), x ≤ sw ∧ gk = sw - x ∧ iv = .int .i64 (x : Nat) ∧ Hid (IsMat wr q2 g2 93 87 W H rs ws B) ∧ Hid (Cov D B W H sw y x) ∧ Hid (Below C w wr))
        case atStart => exact ⟨0, ws1, B, by omega, by omega, rfl, HM, HCV, HB⟩
        case round =>
          clear HM HCV HB
          obtain ⟨x, ws2, B2, hx, hgk2, rfl, HM, HCV, HB⟩ := hrel
          by_cases hlt2 : x < sw
          · have hlt2' : (x : Int) < (sw : Int) := by omega
            obtain ⟨xo, hxo⟩ : ∃ xo, xo = blk x W := ⟨_, rfl⟩
            have hxo2 : xo + 8 ≤ W := by rw [hxo]; exact blk_le (by omega)
            have hxo3 : (xo : Int) = (if (W : Int) - 8 < (x : Int) * 8 then (W : Int) - 8 else (x : Int) * 8) := by
              rw [hxo]; unfold blk; split <;> omega
            have HXO := hid hxo3
            have HXE := hid hxo
            clear hxo hxo3
            go_upto_if 57 with fail
            obtain ⟨wq, hwq⟩ : ∃ wq, wq = wr := ⟨_, rfl⟩
            subst hwq
            go_cut [22] from 48 to 113 (fun v wx => v = .int .i64 (xo : Nat) ∧ wq = wx)
            case first =>
              by_cases h : (W : Int) - 8 < (x : Int) * 8
              all_goals (
                go_wp2_with fail
                go_meet
                case rel => exact ⟨by rw [HXO.out]; congr 1; split <;> omega, rfl⟩)
            case rest =>
              obtain ⟨rfl, rfl⟩ := hcut
              clear HXO
              have cx := capM2 q x (sw - 3) wq (by omega) (by omega) (by omega)
              rw [show ((sw - 3 : Nat) : Int) = (sw : Int) - 3 from by omega] at cx
              obtain ⟨lp1, lp2⟩ := capN_bd x (sw - 3) (by omega)
              generalize capN x 2 (sw - 3) = lp at *
              go_wp2_with fail
              refine cx.mono ?_
              rintro e w1 ⟨rfl, rfl⟩
              clear cx
              go_wp2_with fail
              go_loopw [24, 25, 26] (fun sv zv _ wr => ∃ (k s m : Nat), k ≤ 5 ∧ zv = .int .i64 ((k : Int) - 2) ∧ sv = .int .i64 (s : Nat) ∧ s ≤ 10000 ∧ Hid (s ≤ k * (5 * (lt - 1))) ∧ wq.drewN m = wr) (fun _ zv _ _ => 5 - (intOf zv + 2).toNat)
              case atStart => exact ⟨0, 0, 0, by omega, by first | rfl | (congr 1; omega), rfl, by omega, hid (by omega), rfl⟩
              case round =>
                obtain ⟨k, s, m, hk, rfl, rfl, hs, HS, rfl⟩ := hrel
                by_cases hk5 : k < 5
                · have hk5' : (k : Int) - 2 ≤ 2 := by omega
                  obtain ⟨r, hr⟩ : ∃ r : Nat, r = tp + k - 2 := ⟨_, rfl⟩
                  have hri : (tp : Int) + ((k : Int) - 2) = (r : Int) := by omega
                  have hrs' : (r : Int) < (sh : Int) := by omega
                  have hrs2 : r < sh := by omega
                  obtain ⟨t1, hRow⟩ := HX.out wq HB.out r hrs2
                  generalize Rr r = RA at *
                  generalize Cr r = CA at *
                  obtain ⟨_, hRow⟩ := hRow
                  obtain ⟨b1, o1, rfl, _, hc⟩ := hRow (by omega)
                  have cel := fun c (hcs : c < sw) => show wq.cell? ⟨b1, o1 + c, none⟩ = some (.int .i64 (F r c : Nat)) from by
                    have := hc c (by rw [bpRow_len]; exact hcs)
                    change wq.cell? _ = _ at this
                    rw [this]; simp [bpRow]
                  have e1 := cel (lp - 2) (by omega)
                  have e2 := cel (lp - 1) (by omega)
                  have e3 := cel lp (by omega)
                  have e4 := cel (lp + 1) (by omega)
                  have e5 := cel (lp + 2) (by omega)
                  have f1 := HF.out r (lp - 2)
                  have f2 := HF.out r (lp - 1)
                  have f3 := HF.out r lp
                  have f4 := HF.out r (lp + 1)
                  have f5 := HF.out r (lp + 2)
                  have w1 : IntKind.i64.wrap ((lp : Int) - 2) = ((lp - 2 : Nat) : Int) := by rw [show (lp : Int) - 2 = ((lp - 2 : Nat) : Int) from by omega]; exact IntWalk.i64_in _ ⟨by omega, by omega⟩
                  have w2 : IntKind.i64.wrap ((lp : Int) - 1) = ((lp - 1 : Nat) : Int) := by rw [show (lp : Int) - 1 = ((lp - 1 : Nat) : Int) from by omega]; exact IntWalk.i64_in _ ⟨by omega, by omega⟩
                  have w4 : IntKind.i64.wrap ((lp : Int) + 1) = ((lp + 1 : Nat) : Int) := by rw [show (lp : Int) + 1 = ((lp + 1 : Nat) : Int) from by omega]; exact IntWalk.i64_in _ ⟨by omega, by omega⟩
                  have w5 : IntKind.i64.wrap ((lp : Int) + 2) = ((lp + 2 : Nat) : Int) := by rw [show (lp : Int) + 2 = ((lp + 2 : Nat) : Int) from by omega]; exact IntWalk.i64_in _ ⟨by omega, by omega⟩
                  have i1 : ((lp - 2 : Nat) : Int) < (sw : Int) := by omega
                  have i2 : ((lp - 1 : Nat) : Int) < (sw : Int) := by omega
                  have i3 : (lp : Int) < (sw : Int) := by omega
                  have i4 : ((lp + 1 : Nat) : Int) < (sw : Int) := by omega
                  have i5 : ((lp + 2 : Nat) : Int) < (sw : Int) := by omega
                  have HSUM := hid (show s + (F r (lp - 2) + F r (lp - 1) + F r lp + F r (lp + 1) + F r (lp + 2)) ≤ (k + 1) * (5 * (lt - 1)) from by
                    have := HS.out
                    rw [Nat.add_mul, Nat.one_mul]
                    omega)
                  have hk5m := Nat.mul_le_mul (show k ≤ 4 by omega) (show 5 * (lt - 1) ≤ 1270 by omega)
                  have HSM := hid (show s ≤ 5080 from by have := HS.out; omega)
                  have hs := HSM.out
                  generalize F r (lp - 2) = a1 at *
                  generalize F r (lp - 1) = a2 at *
                  generalize F r lp = a3 at *
                  generalize F r (lp + 1) = a4 at *
                  generalize F r (lp + 2) = a5 at *
                  generalize lp - 2 = q1 at *
                  generalize lp - 1 = q2' at *
                  generalize lp + 1 = q4 at *
                  generalize lp + 2 = q5 at *
                  have s1 : IntKind.i64.wrap ((a1 : Int) + (a2 : Int)) = (a1 : Int) + (a2 : Int) := IntWalk.i64_in _ ⟨by omega, by omega⟩
                  have s2 : IntKind.i64.wrap ((a1 : Int) + (a2 : Int) + (a3 : Int)) = (a1 : Int) + (a2 : Int) + (a3 : Int) := IntWalk.i64_in _ ⟨by omega, by omega⟩
                  have s3 : IntKind.i64.wrap ((a1 : Int) + (a2 : Int) + (a3 : Int) + (a4 : Int)) = (a1 : Int) + (a2 : Int) + (a3 : Int) + (a4 : Int) := IntWalk.i64_in _ ⟨by omega, by omega⟩
                  have s4 : IntKind.i64.wrap ((a1 : Int) + (a2 : Int) + (a3 : Int) + (a4 : Int) + (a5 : Int)) = (a1 : Int) + (a2 : Int) + (a3 : Int) + (a4 : Int) + (a5 : Int) := IntWalk.i64_in _ ⟨by omega, by omega⟩
                  have s5 : IntKind.i64.wrap ((s : Int) + ((a1 : Int) + (a2 : Int) + (a3 : Int) + (a4 : Int) + (a5 : Int))) = (s : Int) + ((a1 : Int) + (a2 : Int) + (a3 : Int) + (a4 : Int) + (a5 : Int)) := IntWalk.i64_in _ ⟨by omega, by omega⟩
                  clear hc cel hr HSM hk5m
                  go_wp2_with fail
                  go_quiet (fail)
                  go_wp2_with fail
                  go_roundw
                  case rel => exact ⟨k + 1, s + (a1 + a2 + a3 + a4 + a5), _, by omega, by go_num, by go_num, by omega, HSUM, by first | rfl | exact World.drewN_drewN _ _ _⟩
                  case measure => simp [intOf] <;> omega
                · obtain rfl : k = 5 := by omega
                  have hk5' : ¬ ((5 : Nat) : Int) - 2 ≤ 2 := by omega
                  have hsum := HS.out
                  have hav : s / 25 < lt := by omega
                  have hd25 : (s : Int) / 25 = ((s / 25 : Nat) : Int) := by omega
                  have tbk := TB.out xo yo (s / 25) ws2 B2 (wq.drewN m) (HM.out.drewN m) (below_drewN HB.out m) hxo2 hyo2 hav
                  generalize s / 25 = av at *
                  clear HS hsum
                  go_wp2_with fail
                  refine tbk.mono ?_
                  rintro e w7 ⟨ws7, rfl, hM7, hb7⟩
                  have HM7 := hid hM7
                  have HB7 := hid ((below_drewN HB.out m).trans hb7)
                  have HCV7 := hid HCV.out.next
                  rw [← HXE.out, ← HYE.out] at HCV7
                  clear tbk hM7 hb7
                  go_wp2_with fail
                  go_roundg (sw - (x + 1))
                  case measure => omega
                  case rel => exact ⟨x + 1, ws7, _, by omega, rfl, by go_num, HM7, HCV7, HB7⟩
          · obtain rfl : x = sw := by omega
            have hlt2' : ¬ (x : Int) < (x : Int) := by omega
            go_wp2_with fail
            go_roundg (sh - (y + 1))
            case measure => omega
            case rel => exact ⟨y + 1, ws2, B2, by omega, rfl, by go_num, HM, hid HCV.out.row, HB⟩
    · obtain rfl : y = sh := by omega
      have hlt' : ¬ (y : Int) < (y : Int) := by omega
      go_wp2_with fail
      go_end0
      exact ⟨ws1, rfl, HM.out.congr (fun a b _ _ => HCV.out.all (by omega) (by omega) HSW.out HSH.out HD.out a b), HB.out⟩
end Go.Proofs.Ytkonepeejhgloaa
