/- FnQRPenaltyRuns: the walk of the law. -/
import Derived.Test.YtjgckbccbambmaaPenA
namespace Go.Proofs.Ytjgckbccbambmaa
open Go.RowKit
set_option linter.unusedVariables false

/-- A value is handed back; the world has drawn, no more. -/
def DrewOut (v : Value) (w : World) (e : Ending) (w' : World) : Prop := e = .returned v ∧ ∃ n, w' = w.drewN n

theorem same_pos {f : Nat → Bool} {c : Nat} (hc : 0 < c) : sameAt f c = (f c == f (c - 1)) := by
  cases c with
  | zero => omega
  | succ c => rfl

set_option maxRecDepth 20000 in
set_option maxHeartbeats 8000000 in
theorem runs (A : Option Addr) (c n : Nat) (B : Nat → Nat → Bool) (w : World) (hX : RdRows w A n (boolRow B n)) (hn1 : 1 ≤ n) (hn : n ≤ 40) :
    Calls Try.prog 16 #[.slice A n c] w (DrewOut (.int .i64 (allPen B n n : Nat)) w) := by
  obtain ⟨b, o, R, C, rfl, hbw, hX⟩ := hX.opened (by omega)
  have HX := hid (fun k hk => show w.cell? ⟨b, o + k, none⟩ = some (.slice (R k) n (C k)) ∧ Rd w (R k) n (boolRow B n k) from by have := hX w (Below.refl _ _) k hk; rw [boolRow_len] at this; exact ⟨this.1, this.2.1⟩)
  clear hX
  go_enter Try.func16, Try.ntmps16
  go_wp2_with fail
  go_loopw [3, 10] (fun pv iv wr => ∃ i m : Nat, i ≤ n ∧ iv = .int .i64 (i : Nat) ∧ pv = .int .i64 (allPen B n i : Nat) ∧ w.drewN m = wr) (fun _ iv _ => n - (intOf iv).toNat)
  case atStart => exact ⟨0, 0, by omega, rfl, rfl, rfl⟩
  case round =>
    obtain ⟨i, m, hi, rfl, rfl, rfl⟩ := hrel
    have hal := allPen_le B n i
    have hin : i * n ≤ 1600 := Nat.mul_le_mul (show i ≤ 40 by omega) hn
    by_cases hlt : i < n
    · have hlt' : (i : Int) < (n : Int) := by omega
      obtain ⟨c1, hr⟩ := HX.out i hlt
      have HRD := hid hr
      have HA := hid (show allPen B n (i + 1) = allPen B n i + rowPen (B i) n from rfl)
      generalize allPen B n i = P at *
      clear hr
      go_wp2_with fail
      go_loopw [3, 6, 16] (fun pv nv jv wr => ∃ j m2 : Nat, j ≤ n ∧ jv = .int .i64 (j : Nat) ∧ nv = .int .i64 (runAt (B i) j : Nat) ∧ pv = .int .i64 (P + (penAt (B i) j + runPen (runAt (B i) j)) : Nat) ∧ w.drewN m2 = wr) (fun _ _ jv _ => n - (intOf jv).toNat)
      case atStart => exact ⟨0, m, by omega, rfl, rfl, rfl, rfl⟩
      case round =>
        obtain ⟨j, m2, hj, rfl, rfl, rfl, rfl⟩ := hrel
        have hpr := pen_run_le (B i) j
        by_cases hj1 : j < n
        · have hj1' : (j : Int) < (n : Int) := by omega
          have HR := hid (show runAt (B i) (j + 1) = if sameAt (B i) j then runAt (B i) j + 1 else 1 from rfl)
          have HP := hid (show penAt (B i) (j + 1) = if sameAt (B i) j then penAt (B i) j else penAt (B i) j + runPen (runAt (B i) j) from rfl)
          obtain ⟨b4, o4, hA4, hb4, c2⟩ := rd_boolRow HRD.out rfl j hj1
          have hrp := runPen_le (runAt (B i) j)
          have HRP : Hid (runPen (runAt (B i) j + 1) = runPen (runAt (B i) j) + (if runAt (B i) j + 1 = 5 then 3 else 0) + (if 5 < runAt (B i) j + 1 then 1 else 0)) := hid (by
            unfold runPen
            rcases Nat.lt_trichotomy (runAt (B i) j + 1) 5 with h1 | h1 | h1
            · rw [if_neg (by omega), if_neg (by omega), if_neg (by omega), if_neg (by omega)]
            · rw [if_pos (by omega), if_neg (by omega), if_pos (by omega), if_neg (by omega)]; omega
            · rw [if_pos (by omega), if_pos (by omega), if_neg (by omega), if_pos (by omega)]; omega)
          generalize penAt (B i) j = pn at *
          generalize runAt (B i) j = rn at *
          generalize runPen rn = rp at *
          rcases Nat.eq_zero_or_pos j with h0 | h0
          · subst h0
            rw [show sameAt (B i) 0 = false from rfl, if_neg (by simp)] at HR HP
            have c2 := c2
            generalize hRy : R i = Ry at *
            subst hA4
            have h00 : ¬ (0 : Int) < ((0 : Nat) : Int) := by omega
            clear HRP
            go_wp2_with fail
            go_quiet (fail)
            go_wp2_with fail
            go_roundw
            case rel => exact ⟨1, _, by omega, by go_num, by rw [HR.out]; go_num, by rw [HP.out, HR.out, show runPen 1 = 0 from rfl, Nat.add_zero]; try go_num, by first | rfl | exact World.drewN_drewN _ _ _ | trivial⟩
            case measure => simp [intOf]; omega
          · have hj0 : (0 : Int) < (j : Int) := by omega
            obtain ⟨b5, o5, hA5, hb5, c3⟩ := rd_boolRow HRD.out rfl (j - 1) (by omega)
            have hsp := same_pos (f := B i) h0
            have i1 : (0 : Int) ≤ (j : Int) - 1 := by omega
            have i2 : (j : Int) - 1 < (n : Int) := by omega
            have i3 : ((j : Int) - 1).toNat = j - 1 := by omega
            have hbe : b5 = b4 ∧ o5 = o4 := by
              rw [hA4] at hA5
              injection hA5 with e
              injection e with e1 e2
              exact ⟨e1.symm, e2.symm⟩
            obtain ⟨rfl, rfl⟩ := hbe
            generalize hRy : R i = Ry at *
            subst hA4
            generalize B i (j - 1) = y at *
            generalize B i j = x at *
            clear hA5 hb5
            by_cases hxy : x = y
            · subst hxy
              rw [hsp, beq_self_eq_true, if_pos rfl] at HR HP
              clear hsp
              rcases Nat.lt_trichotomy (rn + 1) 5 with h1 | h1 | h1
              · have h2 : (((rn : Int) + 1) == 5) = false := by rw [beq_eq_false_iff_ne]; omega
                have h3 : ¬ (5 : Int) < (rn : Int) + 1 := by omega
                have HV := hid (show runPen (rn + 1) = rp from by rw [HRP.out, if_neg (by omega), if_neg (by omega)]; rfl)
                clear HRP
                go_wp2_with fail
                go_quiet (fail)
                go_wp2_with fail
                go_roundw
                case rel => exact ⟨j + 1, _, by omega, by go_num, by rw [HR.out]; go_num, by rw [HP.out, HR.out, HV.out]; go_num, by first | rfl | exact World.drewN_drewN _ _ _ | trivial⟩
                case measure => simp [intOf]; omega
              · have h2 : (((rn : Int) + 1) == 5) = true := by rw [beq_iff_eq]; omega
                have h3 : ¬ (5 : Int) < (rn : Int) + 1 := by omega
                have HV := hid (show runPen (rn + 1) = rp + 3 from by rw [HRP.out, if_pos h1, if_neg (by omega)])
                clear HRP
                go_wp2_with fail
                go_quiet (fail)
                go_wp2_with fail
                go_roundw
                case rel => exact ⟨j + 1, _, by omega, by go_num, by rw [HR.out]; go_num, by rw [HP.out, HR.out, HV.out]; go_num, by first | rfl | exact World.drewN_drewN _ _ _ | trivial⟩
                case measure => simp [intOf]; omega
              · have h2 : (((rn : Int) + 1) == 5) = false := by rw [beq_eq_false_iff_ne]; omega
                have h3 : (5 : Int) < (rn : Int) + 1 := by omega
                have HV := hid (show runPen (rn + 1) = rp + 1 from by rw [HRP.out, if_neg (by omega), if_pos h1])
                clear HRP
                go_wp2_with fail
                go_quiet (fail)
                go_wp2_with fail
                go_roundw
                case rel => exact ⟨j + 1, _, by omega, by go_num, by rw [HR.out]; go_num, by rw [HP.out, HR.out, HV.out]; go_num, by first | rfl | exact World.drewN_drewN _ _ _ | trivial⟩
                case measure => simp [intOf]; omega
            · have hxf : (x == y) = false := by rw [beq_eq_false_iff_ne]; exact hxy
              rw [hsp, hxf, if_neg (by simp)] at HR HP
              clear hsp hxy HRP
              go_wp2_with fail
              go_quiet (fail)
              go_wp2_with fail
              go_roundw
              case rel => exact ⟨j + 1, _, by omega, by go_num, by rw [HR.out]; go_num, by rw [HP.out, HR.out, show runPen 1 = 0 from rfl, Nat.add_zero]; try go_num, by first | rfl | exact World.drewN_drewN _ _ _ | trivial⟩
              case measure => simp [intOf]; omega
        · obtain rfl : j = n := by omega
          have hj1' : ¬ (j : Int) < (j : Int) := by omega
          have HRP := hid (show rowPen (B i) j = penAt (B i) j + runPen (runAt (B i) j) from rfl)
          have hrp := runPen_le (runAt (B i) j)
          generalize runPen (runAt (B i) j) = rp at *
          generalize penAt (B i) j = pn at *
          generalize runAt (B i) j = rn at *
          clear c1
          go_wp2_with fail
          go_roundw
          case rel => exact ⟨i + 1, m2, by omega, by go_num, by rw [HA.out, HRP.out], by first | rfl | trivial⟩
          case measure => simp [intOf]; omega
    · obtain rfl : i = n := by omega
      have hlt' : ¬ (i : Int) < (i : Int) := by omega
      generalize hP : allPen B i i = P at *
      go_wp2_with fail
      go_ret
      exact ⟨by first | rfl | rw [hP], m, rfl⟩

set_option maxRecDepth 20000 in
set_option maxHeartbeats 4000000 in
theorem turned (A : Option Addr) (c n : Nat) (B : Nat → Nat → Bool) (w : World) (hX : RdRows w A n (boolRow B n)) (hn1 : 1 ≤ n) (hn : n ≤ 40) :
    Calls Try.prog 17 #[.slice A n c] w (RowsOut n (boolRow (fun r c => B c r) n) w) := by
  obtain ⟨i1, hi1, hy0, hy1, hy2⟩ := info_at info41
  obtain ⟨i4, hi4, hb0, hb1, hb2⟩ := info_at info4
  have hmk := fun W => run_make (P := Try.prog) W 36 41 i1 (.slice none 0 0) Try.underlying36 hi1 hy0 .i64 .i64 (n : Int) (n : Int) (by omega) (by omega) (by rw [hy2]; omega) (by omega)
  simp only [hy1] at hmk
  have hmk2 := fun W => run_make (P := Try.prog) W 41 4 i4 (.bool false) Try.underlying41 hi4 hb0 .i64 .i64 (n : Int) (n : Int) (by omega) (by omega) (by rw [hb2]; omega) (by omega)
  simp only [hb1] at hmk2
  obtain ⟨b, o, R, C, rfl, hbw, hX⟩ := hX.opened (by omega)
  have HX := hid (fun w' hw k hk => show w'.cell? ⟨b, o + k, none⟩ = some (.slice (R k) n (C k)) ∧ Rd w' (R k) n (boolRow B n k) from by have := hX w' hw k hk; rw [boolRow_len] at this; exact ⟨this.1, this.2.1⟩)
  clear hX
  go_enter Try.func17, Try.ntmps17
  go_wp2
  have HA := hid (Arr.made w 41 (.slice none 0 0) n)
  have HB := hid (show Below w.heap.size w (w.alloc (.cells (madeCells #[.slice none 0 0] n) 41)) from (Below.refl _ _).alloc (Nat.le_refl _) _)
  generalize w.alloc (.cells (madeCells #[.slice none 0 0] n) 41) = w1 at *
  clear hmk
  go_loopw [11] (fun iv wr => ∃ (k : Nat) (gs : Nat → Nat), k ≤ n ∧ iv = .int .i64 (k : Nat) ∧ RowsUp wr w.heap.size 41 4 n k gs (boolRow (fun r c => B c r) n) ∧ Below w.heap.size w wr) (fun iv _ => n - (intOf iv).toNat)
  case atStart => exact ⟨0, fun _ => 0, by omega, rfl, RowsUp.zero HA.out, HB.out⟩
  case round =>
    clear HA HB
    obtain ⟨k, gs, hk, rfl, hU, hB⟩ := hrel
    have HU := hid hU
    have HB := hid hB
    clear hU hB
    by_cases hlt : k < n
    · have hlt' : (k : Int) < (n : Int) := by omega
      have htop := HU.out.top.alloc (.cells (madeCells #[.bool false] n) 4)
      obtain ⟨v0, hv0⟩ := htop.has k (by simp; omega)
      have fz := htop.frozen k
      have hGl := HU.out.top.lt
      have HT1 := hid ((HU.out.top.set k (.slice (some ⟨wr.heap.size, 0, none⟩) n n)).alloc (.cells (madeCells #[.bool false] n) 4))
      have htc := HT1.out.cell k (by simp; omega)
      simp only [List.getElem_set_self] at htc
      clear htop
      go_wp2
      have HG1 := hid (show Arr ((wr.setCell ⟨w.heap.size, k, none⟩ (.slice (some ⟨wr.heap.size, 0, none⟩) n n)).alloc (.cells (madeCells #[.bool false] n) 4)) wr.heap.size 4 (List.replicate n (.bool false)) from by have := Arr.made (wr.setCell ⟨w.heap.size, k, none⟩ (.slice (some ⟨wr.heap.size, 0, none⟩) n n)) 4 (.bool false) n; rwa [World.size_setCell] at this)
      have HBB := hid (show Below w.heap.size w ((wr.setCell ⟨w.heap.size, k, none⟩ (.slice (some ⟨wr.heap.size, 0, none⟩) n n)).alloc (.cells (madeCells #[.bool false] n) 4)) from (HB.out.setCell (by simp) _).alloc (by rw [World.size_setCell]; exact HB.out.size) _)
      have HN := hid (fun W x hx hb hA => HU.out.next (cs := madeCells #[.bool false] n) (m := n) (x := x) (w' := W) hlt hx hb hA)
      generalize hw2 : (wr.setCell ⟨w.heap.size, k, none⟩ (.slice (some ⟨wr.heap.size, 0, none⟩) n n)).alloc (.cells (madeCells #[.bool false] n) 4) = w2 at *
      generalize hgg : wr.heap.size = g at *
      have hs1 := HBB.out.size
      clear hv0 fz hw2 htc
      go_loopw [25] (fun cv wr => ∃ c : Nat, c ≤ n ∧ cv = .int .i64 (c : Nat) ∧ Arr wr g 4 ((boolRow (fun r c => B c r) n k).take c ++ List.replicate (n - c) (.bool false)) ∧ Below g w2 wr) (fun cv _ => n - (intOf cv).toNat)
      case atStart => exact ⟨0, by omega, rfl, by simpa using HG1.out, Below.refl _ _⟩
      case round =>
        clear HG1
        obtain ⟨c, hcn, rfl, hA, hB2⟩ := hrel
        have HA := hid hA
        have HB2 := hid hB2
        have hBw := hid (HBB.out.trans (hB2.mono (by omega)))
        have htc := (HT1.out.below hB2 (by omega)).cell k (by simp; omega)
        simp only [List.getElem_set_self] at htc
        clear hA hB2
        by_cases h1 : c < n
        · have h1' : (c : Int) < (n : Int) := by omega
          obtain ⟨hc', hr'⟩ := HX.out wr hBw.out c h1
          obtain ⟨bz, oz, hRz, hbz, hcz2⟩ := rd_boolRow hr' rfl k hlt
          obtain ⟨v1, hv1⟩ := HA.out.has c (by rw [List.length_append, List.length_take, List.length_replicate, boolRow_len]; omega)
          have fz := HA.out.frozen c
          have HS2 := hid (fill_set (.bool false) (boolRow (fun r c => B c r) n k) n c (by rw [boolRow_len]; exact h1) h1)
          have HV := hid (show (boolRow (fun r c => B c r) n k).getD c (.bool false) = .bool (B c k) from by simp [boolRow, List.getD, List.getElem?_range h1])
          rw [HV.out] at HS2
          generalize hRy : R c = Ry at *
          subst hRz
          clear hr' HV
          generalize B c k = bz2 at *
          go_wp2_with fail
          go_region
          all_goals (
            go_wp2_with fail
            go_roundw
            case rel =>
              refine ⟨c + 1, by omega, by go_num, ?_, Below.setCell HB2.out.drew (by simp) _⟩
              rw [← HS2.out]
              exact (HA.out.drew).set c _
            case measure => simp [intOf]; omega)
        · obtain rfl : c = n := by omega
          have h1' : ¬ (c : Int) < (c : Int) := by omega
          have hfull := HA.out
          rw [Nat.sub_self, List.replicate_zero, List.append_nil, List.take_of_length_le (by rw [boolRow_len]; exact Nat.le_refl _)] at hfull
          have HE := hid (HN.out wr _ (boolRow_len _ c k) HB2.out hfull)
          have HE2 := hid (show RowsUp wr w.heap.size 41 4 c (k + 1) (put gs k g) (boolRow (fun r x => B x r) c) from HE.out.congr (fun r hr => by
            unfold put
            by_cases hrk : r = k
            · rw [if_pos hrk, hrk]
            · rw [if_neg hrk]))
          clear HE HN hfull
          go_wp2_with fail
          go_roundw
          case rel => exact ⟨k + 1, _, by omega, by go_num, HE2.out, hBw.out⟩
          case measure => simp [intOf]; omega
    · obtain rfl : k = n := by omega
      have hlt' : ¬ (k : Int) < (k : Int) := by omega
      go_wp2_with fail
      go_ret
      exact ⟨w.heap.size, rfl, Nat.le_refl _, HU.out.rd, HB.out⟩

set_option maxRecDepth 20000 in
set_option maxHeartbeats 4000000 in
theorem FnQRPenaltyRuns_walk (w : World) (A : Option Addr) (n0 c0 : Nat) (zs : List (List Bool)) (hR : RowsIn w A n0 c0 zs) :
    Calls Try.prog 6 #[.slice A n0 c0] w fun e w' => e = .returned (.bool true) ∧ Below w.heap.size w w' := by
  have ft := fits A n0 c0 zs w hR
  obtain ⟨_, hnc, hcm, hX, hl⟩ := hR
  go_enter Try.func6, Try.ntmps6
  go_wp2_with fail
  refine ft.mono ?_
  rintro e w1 ⟨ok, rfl, rfl, hok⟩
  clear ft hl
  cases ok with
  | false =>
    go_wp2_with fail
    go_ret
    exact ⟨rfl, Below.refl _ _⟩
  | true =>
    obtain ⟨hn0, hl⟩ := hok rfl
    obtain ⟨n, hn⟩ : ∃ n, n = min n0 40 := ⟨_, rfl⟩
    have ce := cells A n0 c0 n zs w1 hX hl hn0 hnc hn
    have hn40 : n ≤ 40 := by omega
    clear hX hl hok hn
    go_wp2_with fail
    refine ce.mono ?_
    rintro e w2 ⟨G1, G2, rfl, hC, hS, hb2⟩
    have HC := hid hC
    have HS := hid hS
    have HB2 := hid hb2
    clear ce hC hS hb2
    generalize bitAt zs = B at *
    by_cases hz : n = 0
    · subst hz
      go_wp2_with fail
      go_ret
      exact ⟨rfl, HB2.out⟩
    · have hn1 : 1 ≤ n := by omega
      have hz' : ((n : Int) == 0) = false := by rw [beq_eq_false_iff_ne]; omega
      have hT1 : n * n ≤ 1600 := Nat.mul_le_mul hn40 hn40
      have hl1 := allPen_le B n n
      have hl2 := allPen_le (fun r c => B c r) n n
      have pe := penalty1 (some ⟨G1, 0, none⟩) n n B w2 HC.out hn1 hn40
      have ru := fun W h => runs (some ⟨G2, 0, none⟩) n n B W h hn1 hn40
      have tu := fun W h => turned (some ⟨G2, 0, none⟩) n n B W h hn1 hn40
      have rt := fun W G h => runs (some ⟨G, 0, none⟩) n n (fun r c => B c r) W h hn1 hn40
      have RU := hid ru
      have TU := hid tu
      have RT := hid rt
      clear hz ru tu rt
      generalize allPen B n n = p1 at *
      generalize allPen (fun r c => B c r) n n = p2 at *
      go_wp2_with fail
      refine pe.mono ?_
      rintro e w3 ⟨rfl, hb3⟩
      have HB3 := hid (HB2.out.trans (hb3.mono HB2.out.size))
      have HS3 := hid (HS.out.below hb3)
      clear pe hb3 HS
      go_wp2_with fail
      refine (RU.out _ HS3.out).mono ?_
      rintro e w4 ⟨rfl, m4, rfl⟩
      go_wp2_with fail
      refine (TU.out _ (HS3.out.below (below_drewN (Below.refl _ _) m4))).mono ?_
      rintro e w5 ⟨G3, rfl, hG3, hT, hb5⟩
      have HT := hid hT
      have HB5 := hid (HB3.out.trans ((below_drewN (Below.refl w3.heap.size w3) m4).trans hb5 |>.mono HB3.out.size))
      clear hT hb5
      go_wp2_with fail
      refine (RT.out _ G3 HT.out).mono ?_
      rintro e w6 ⟨rfl, m6, rfl⟩
      go_wp2_with fail
      go_ret
      exact ⟨by simp, below_drewN HB5.out _⟩
end Go.Proofs.Ytjgckbccbambmaa
