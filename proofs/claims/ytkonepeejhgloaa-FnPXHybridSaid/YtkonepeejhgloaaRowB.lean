/- gozxing.GlobalHistogramBinarizer.GetBlackRow over a source. -/
import Derived.Test.YtkonepeejhgloaaRowG
namespace Go.Proofs.Ytkonepeejhgloaa
open Go.RowKit
set_option linter.unusedVariables false
set_option linter.unusedSimpArgs false

/-- How many of the first x grays belong to group k. -/
def cntTo (px : Nat → Nat) (k : Nat) : Nat → Nat
  | 0 => 0
  | x + 1 => cntTo px k x + (if px x / 8 = k then 1 else 0)
theorem cntTo_le (px : Nat → Nat) (k : Nat) : ∀ x, cntTo px k x ≤ x
  | 0 => Nat.le_refl _
  | x + 1 => by have := cntTo_le px k x; rw [cntTo]; split <;> omega
def cntL (px : Nat → Nat) (x : Nat) : List Value := (List.range 32).map fun k => Value.int .i64 (cntTo px k x : Nat)
theorem cntL_len (px : Nat → Nat) (x : Nat) : (cntL px x).length = 32 := by simp [cntL]
theorem cntL_zero (px : Nat → Nat) : cntL px 0 = List.replicate 32 (.int .i64 0) := by
  apply List.ext_getElem
  · simp [cntL]
  · intro i h1 h2; simp only [cntL, List.getElem_map, List.getElem_range, cntTo, List.getElem_replicate]; rfl
theorem cntL_at (px : Nat → Nat) (x k : Nat) (hk : k < 32) : (cntL px x)[k]? = some (.int .i64 (cntTo px k x : Nat)) := by
  simp [cntL, List.getElem?_range hk]
theorem cntL_next (px : Nat → Nat) (x : Nat) : (cntL px x).set (px x / 8) (.int .i64 ((cntTo px (px x / 8) x + 1 : Nat) : Int)) = cntL px (x + 1) := by
  apply List.ext_getElem
  · simp [cntL]
  · intro i h1 h2
    rw [List.getElem_set]
    simp only [cntL, List.getElem_map, List.getElem_range, cntTo]
    split
    · rename_i e; rw [← e]
    · rfl
/-- The dark ones of a row: by a bound, or by a bound for each with its neighbours. -/
def darkB (px : Nat → Nat) (wd bd : Nat) : Nat → Bool := fun x =>
  if wd < 3 then decide (x < wd) && decide (px x < bd)
  else decide (1 ≤ x) && decide (x + 1 < wd) && decide (Int.tdiv ((px x : Int) * 4 - (px (x - 1) : Int) - (px (x + 1) : Int)) 2 < (bd : Int))
def cntF (px : Nat → Nat) (wd : Nat) : Nat → Nat := fun k => cntTo px k wd

theorem nilRow (a : Addr) (w : World) : (nilAhead 244 78 (.pointer (some a)) "GetRow").run Try.prog w = .ok (some false) w := by kernel_rfl
def BRowOut (B : Nat) (px : Nat → Nat) (wd : Nat) (w : World) (e : Ending) (w' : World) : Prop :=
  Below B w w' ∧ ((bound (cntF px wd) = none ∧ ∃ u, e = .returned (.tuple #[.pointer none, .iface 130 u])) ∨
    ∃ bd a ag nw ws, bound (cntF px wd) = some bd ∧ e = .returned (.tuple #[.pointer (some ⟨a, 0, none⟩), .nilIface]) ∧ B ≤ a ∧ B ≤ ag ∧ a < w'.heap.size ∧ ag < w'.heap.size ∧ nw ≤ 7 ∧ IsBA w' a ag wd nw ws (darkB px wd bd))

set_option maxRecDepth 20000 in
set_option maxHeartbeats 8000000 in
theorem getBlackRow (B r q g wd h n cap y G : Nat) (LA : Option Addr) (px : Nat → Nat) (w : World) (hP : Plan w q g wd h n cap) (hO : ∀ k, k < n → w.cell? ⟨g, k, none⟩ = some (.int .u8 (px k : Nat))) (hg : g < w.heap.size)
    (hG : Glob w r q LA 0 G) (hA : Arr w G 3 (List.replicate 32 (.int .i64 0))) (hGr : G ≠ r) (hBr : B ≤ r) (hBG : B ≤ G) (hgr : g ≠ r) (hgG : g ≠ G) (hqr : q ≠ r) (hqG : q ≠ G)
    (hn : n = wd * h) (hy : y < h) (hw1 : 1 ≤ wd) (hw2 : wd ≤ 60) (hh2 : h ≤ 60) (hcap : n ≤ cap) (hpx : ∀ k, px k < 256) :
    Calls Try.prog 57 #[.pointer (some ⟨r, 0, none⟩), .int .i64 y, .pointer none] w (BRowOut B (rowPx px wd y) wd w) := by
  have hBs : B ≤ w.heap.size := Nat.le_of_lt (Nat.lt_of_le_of_lt hBr hG.lt)
  have gs := globSrc r q 0 G LA w hG
  have gw := getWidth w q g wd h n cap hP
  have m1 := metW ⟨q, 0, none⟩
  have m2 := metRow ⟨q, 0, none⟩
  have m3 := nilRow ⟨q, 0, none⟩
  have na := newArr wd ((wd + 31) / 32) w (by omega) rfl
  have hnw7 : (wd + 31) / 32 ≤ 7 := by omega
  generalize (wd + 31) / 32 = nw at *
  have HP := hid hP
  have HO := hid hO
  have HG := hid hG
  have HA := hid hA
  have HN := hid hn
  have HPX := hid hpx
  clear hP hO hG hA hn hpx
  go_enter Try.func57, Try.ntmps57
  go_wp2_with fail
  refine gs.mono ?_
  rintro e w1 ⟨rfl, rfl⟩
  go_wp2_with fail
  refine gw.mono ?_
  rintro e w1 ⟨rfl, rfl⟩
  go_wp2_with fail
  refine na.mono ?_
  rintro e w1 ⟨a, ag, ws, rfl, hag, ha, hM, hb1⟩
  have hM2 := hM.st.lt
  have hM3 := hM.bits.lt
  have HM := hid hM
  have HB1 := hid (show Below B w w1 from hb1.mono hBs)
  have ia := initArrays B r q wd G LA w1 (HG.out.below hb1 HG.out.lt) (HA.out.below hb1 HA.out.lt) hGr hBr hBG hw1 (by omega)
  have HP1 := hid (HP.out.below hb1 HP.out.lt)
  have HO1 := hid (fun k hk => (hb1.cell (p := ⟨g, k, none⟩) hg).trans (HO.out k hk))
  have hg1 : g < w1.heap.size := Nat.lt_of_lt_of_le hg hb1.size
  have hwg : w.heap.size ≤ w1.heap.size := hb1.size
  have hGl := HG.out.lt
  have hAl := HA.out.lt
  have hPl := HP.out.lt
  clear na gs gw hM hb1 HG HA HP HO
  go_wp2_with fail
  refine ia.mono ?_
  rintro e w2 ⟨L, rfl, hL, hG2, hL2, hA2, hb2, hk2⟩
  have HP2 := hid (hk2.arr HP1.out hqr hqG)
  have HO2 := hid (fun k hk => (hk2.cell (k := k) hg1 hgr hgG).trans (HO1.out k hk))
  have HM2 := hid (show IsBA w2 a ag wd nw ws (fun _ => false) from ⟨hk2.arr HM.out.st (by omega) (by omega), hk2.arr HM.out.bits (by omega) (by omega), HM.out.sh, HM.out.ne, HM.out.wr, HM.out.rw_⟩)
  have HB2 := hid (HB1.out.trans hb2)
  have hbL : B ≤ L := by have := HB1.out.size; omega
  have gr := getRow L q g wd h n cap y px w2.drew HP2.out HO2.out hL2 HN.out hy hw1 (by omega) (by omega) hcap HPX.out
  have HG2 := hid hG2
  have HA2 := hid hA2
  have c1 := hG2.cell? 1
  simp only [List.getElem?_cons_zero, List.getElem?_cons_succ] at c1
  clear ia HP1 HO1 HM HB1 hG2 hL2 hA2 hb2 hk2
  go_wp2_with fail
  have hrL : r < L := by omega
  have b2 := Below.refl L w2
  go_region_held3 (fun w' => w'.cell? ⟨r, 1, none⟩ = some (.slice (some ⟨L, 0, none⟩) wd wd) ∧ Below L w2 w')
    (first | exact ⟨c1, b2.drew⟩ | exact ⟨(Below.cell (p := ⟨r, 1, none⟩) hr2 hrL).trans c1, b2.drew.trans hr2⟩)
    (first | (go_at_call 73; ((with_reducible refine gr.mono ?_); rintro e w6 ⟨rfl, hr1, hr2⟩)))
  have hb6 : Below L w2 w6 := b2.drew.trans hr2
  have HL6 := hid hr1
  have HM6 := hid (HM2.out.below hb6 (show a < L by omega) (show ag < L by omega))
  have HA6 := hid (show Arr w6 G 3 (cntL (rowPx px wd y) 0) from by rw [cntL_zero]; exact HA2.out.below hb6 (by omega))
  have c2 := (Arr.below HG2.out hb6 hrL).cell? 2
  simp only [List.getElem?_cons_zero, List.getElem?_cons_succ] at c2
  have HB6 := hid (HB2.out.trans (hb6.mono hbL))
  have HRP := hid (fun x => HPX.out (y * wd + x))
  have HRP2 : Hid (∀ x, rowPx px wd y x < 256) := hid (fun x => HRP.out x)
  have hBa : B ≤ a := by omega
  have hBag : B ≤ ag := by omega
  have hagG : ag ≠ G := by omega
  have haG : a ≠ G := by omega
  have hLG : L ≠ G := by omega
  have hLag : L ≠ ag := by omega
  have hal6 := HM6.out.st.lt
  have hagl6 := HM6.out.bits.lt
  generalize rowPx px wd y = rp at *
  clear hr1 hr2 b2 c1 HRP HPX HG2 HA2 HM2 HB2 HO2 HP2 HN gr hb6 m1 m2 m3
  go_wp2_with fail
  go_loopw [13] (fun iv wr => ∃ x : Nat, x ≤ wd ∧ iv = .int .i64 (x : Nat) ∧ Hid (Arr wr G 3 (cntL rp x)) ∧ Hid (Arr wr L 5 (bytesOf wd rp)) ∧ Hid (IsBA wr a ag wd nw ws (fun _ => false)) ∧ Hid (Below B w wr)) (fun iv _ => wd - (intOf iv).toNat)
  case atStart => exact ⟨0, by omega, rfl, HA6, HL6, HM6, HB6⟩
  case round =>
    clear HA6 HL6 HM6 HB6 hal6 hagl6
    obtain ⟨x, hx, rfl, HA, HL, HM, HB⟩ := hrel
    by_cases hlt : x < wd
    · have hlt' : (x : Int) < (wd : Int) := by omega
      have hx8 := HRP2.out x
      have cb := (HL.out.cell? x).trans (bytesOf_at wd rp x hlt)
      have hand := u8_255 (rp x) hx8
      have hd8 : (rp x : Int) / 8 = ((rp x / 8 : Nat) : Int) := by omega
      have hk : rp x / 8 < 32 := by omega
      have cg := (HA.out.cell? (rp x / 8)).trans (cntL_at rp x (rp x / 8) hk)
      have fz := HA.out.frozen (rp x / 8)
      have hcl := cntTo_le rp (rp x / 8) x
      have HNX := hid (cntL_next rp x)
      generalize rp x / 8 = k at *
      generalize rp x = p at *
      have hk' : (k : Int) < 32 := by omega
      generalize cntTo rp k x = cx at *
      go_wp2_with fail
      go_roundw
      case rel => exact ⟨x + 1, by omega, by go_num, hid (by rw [← HNX.out, show ((cx + 1 : Nat) : Int) = (cx : Int) + 1 from by omega]; exact HA.out.set k _), hid (HL.out.far (p := ⟨G, k, none⟩) (by simpa using hLG) _), hid ⟨HM.out.st.far (p := ⟨G, k, none⟩) (by simpa using haG) _, HM.out.bits.far (p := ⟨G, k, none⟩) (by simpa using hagG) _, HM.out.sh, HM.out.ne, HM.out.wr, HM.out.rw_⟩, hid (HB.out.setCell (by simpa using hBG) _)⟩
      case measure => simp [intOf]; omega
    · obtain rfl : x = wd := by omega
      have hlt' : ¬ (x : Int) < (x : Int) := by omega
      have eg := estimateG (some ⟨r, 0, none⟩) G 0 32 (cntF rp x) (fun k => Nat.le_trans (cntTo_le rp k x) hw2) wr (fun k hk => by rw [Nat.zero_add]; exact (HA.out.cell? k).trans (cntL_at rp x k hk))
      have hal := HM.out.st.lt
      have hagl := HM.out.bits.lt
      have hLl := HL.out.lt
      clear HA
      go_wp2_with fail
      refine eg.mono ?_
      rintro e w7 ⟨hb7, h7⟩
      have hbs : wr.heap.size ≤ w7.heap.size := hb7.size
      have HM7 := hid (HM.out.below hb7 hal hagl)
      have HL7 := hid (HL.out.below hb7 hLl)
      have HB7 := hid (HB.out.trans (hb7.mono (by have := HB.out.size; omega)))
      clear eg hb7 HM HL HB hlt
      rcases h7 with ⟨hn0, u, rfl⟩ | ⟨v, hv0, hv1, rfl⟩
      · have HN0 := hid hn0
        clear hn0
        go_wp2_with fail
        go_ret2
        exact ⟨HB7.out, .inl ⟨HN0.out, u, rfl⟩⟩
      · have HV0 := hid hv0
        clear hv0
        by_cases h3 : x < 3
        · have h3' : (x : Int) < 3 := by omega
          go_wp2_with fail
          go_loopw [15] (fun iv wr => ∃ (k : Nat) (ws : List Nat), k ≤ x ∧ iv = .int .i64 (k : Nat) ∧ Hid (Arr wr L 5 (bytesOf x rp)) ∧ Hid (IsBA wr a ag x nw ws (fun i => decide (i < k) && darkB rp x v i)) ∧ Hid (Below B w wr)) (fun iv _ => x - (intOf iv).toNat)
          case atStart => exact ⟨0, ws, by omega, rfl, HL7, hid (HM7.out.congr (fun i _ => by simp)), HB7⟩
          case round =>
            clear HL7 HM7 HB7
            obtain ⟨k, ws2, hk, rfl, HL, HM, HB⟩ := hrel
            by_cases hlt : k < x
            · have hlt' : (k : Int) < (x : Int) := by omega
              have hx8 := HRP2.out k
              have cb := (HL.out.cell? k).trans (bytesOf_at x rp k hlt)
              have hand := u8_255 (rp k) hx8
              have hkr : k < 32 * nw := Nat.lt_of_lt_of_le hlt HM.out.wr
              have sa := setArr a ag x nw k ws2 _ wr HM.out hkr hnw7
              have HSH := hid (HM.out.sh.one hkr (Nat.or_lt_two_pow (n := 32) (HM.out.sh.lt _) (pow_lt32 (Nat.mod_lt _ (by omega)))) (fun j _ => or_bit_at _ _ j))
              have HD := hid (show darkB rp x v k = decide (rp k < v) from by simp [darkB, h3, hlt])
              have HNX := hid (fun (bb : Bool) (e : decide (rp k < v) = bb) i => show (decide (i < k + 1) && darkB rp x v i) = (if i = k then bb else (decide (i < k) && darkB rp x v i)) from by
                by_cases hi : i = k
                · rw [if_pos hi, hi, HD.out, e]; simp
                · rw [if_neg hi]
                  have : decide (i < k + 1) = decide (i < k) := decide_eq_decide.2 (by omega)
                  rw [this])
              by_cases hp : rp k < v
              · have HE := hid (decide_eq_true hp)
                have hp' : ((rp k : Nat) : Int) < (v : Int) := by omega
                generalize rp k = p at *
                go_wp2_with fail
                refine sa.mono ?_
                rintro e w8 ⟨rfl, rfl⟩
                clear sa
                go_wp2_with fail
                go_roundw
                case rel => exact ⟨k + 1, _, by omega, by go_num, hid (HL.out.far (p := ⟨ag, k / 32, none⟩) (by simpa using hLag) _), hid ((HM.out.put HSH.out).congr (fun i _ => ((HNX.out true HE.out i).symm))), hid (HB.out.setCell (by simpa using hBag) _)⟩
                case measure => simp [intOf]; omega
              · have HE := hid (decide_eq_false hp)
                have hp' : ¬ ((rp k : Nat) : Int) < (v : Int) := by omega
                generalize rp k = p at *
                clear sa
                go_wp2_with fail
                go_roundw
                case rel =>
                  refine ⟨k + 1, ws2, by omega, by go_num, HL, hid (HM.out.congr (fun i _ => ?_)), HB⟩
                  rw [HNX.out false HE.out i]
                  by_cases hi : i = k
                  · rw [if_pos hi, hi]; simp
                  · rw [if_neg hi]
                case measure => simp [intOf]; omega
            · obtain rfl : k = x := by omega
              have hlt' : ¬ (k : Int) < (k : Int) := by omega
              go_wp2_with fail
              go_ret2
              refine ⟨HB.out, .inr ⟨v, a, ag, nw, ws2, HV0.out, rfl, hBa, hBag, HM.out.st.lt, HM.out.bits.lt, hnw7, HM.out.congr (fun i _ => ?_)⟩⟩
              by_cases hi : i < k
              · simp [hi]
              · simp [hi, darkB, h3]
        · have h3' : ¬ (x : Int) < 3 := by omega
          have cb0 := (HL7.out.cell? 0).trans (bytesOf_at x rp 0 (by omega))
          have cb1 := (HL7.out.cell? 1).trans (bytesOf_at x rp 1 (by omega))
          have hand0 := u8_255 (rp 0) (HRP2.out 0)
          have hand1 := u8_255 (rp 1) (HRP2.out 1)
          have hx80 := HRP2.out 0
          have hx81 := HRP2.out 1
          have hx1 : (1 : Int) < (x : Int) := by omega
          go_wp2_with fail
          go_loopw [16, 17, 18] (fun lv cv iv wr => ∃ (k : Nat) (ws : List Nat), 1 ≤ k ∧ k + 1 ≤ x ∧ iv = .int .i64 (k : Nat) ∧ lv = .int .i64 (rp (k - 1) : Nat) ∧ cv = .int .i64 (rp k : Nat) ∧ Hid (Arr wr L 5 (bytesOf x rp)) ∧ Hid (IsBA wr a ag x nw ws (fun i => decide (i < k) && darkB rp x v i)) ∧ Hid (Below B w wr)) (fun _ _ iv _ => x - (intOf iv).toNat)
          case atStart => exact ⟨1, ws, by omega, by omega, rfl, rfl, rfl, HL7, hid (HM7.out.congr (fun i _ => by
            by_cases hi : i = 0
            · subst hi; simp [darkB, h3]
            · simp; omega)), HB7⟩
          case round =>
            clear HL7 HM7 HB7 cb0 cb1 hand0 hand1 hx80 hx81
            obtain ⟨k, ws2, hk1, hk, rfl, rfl, rfl, HL, HM, HB⟩ := hrel
            by_cases hlt : k + 1 < x
            · have hlt' : (k : Int) < (x : Int) - 1 := by omega
              have hx8 := HRP2.out (k + 1)
              have hx81 := HRP2.out k
              have hx80 := HRP2.out (k - 1)
              have cb := (HL.out.cell? (k + 1)).trans (bytesOf_at x rp (k + 1) hlt)
              have hand := u8_255 (rp (k + 1)) hx8
              have hkr : k < 32 * nw := Nat.lt_of_lt_of_le (by omega) HM.out.wr
              have sa := setArr a ag x nw k ws2 _ wr HM.out hkr hnw7
              have HSH := hid (HM.out.sh.one hkr (Nat.or_lt_two_pow (n := 32) (HM.out.sh.lt _) (pow_lt32 (Nat.mod_lt _ (by omega)))) (fun j _ => or_bit_at _ _ j))
              have HD := hid (show darkB rp x v k = decide (Int.tdiv ((rp k : Int) * 4 - (rp (k - 1) : Int) - (rp (k + 1) : Int)) 2 < (v : Int)) from by simp [darkB, h3, hk1, hlt])
              have HP1 := hid (show rp (k + 1 - 1) = rp k from by rw [Nat.add_sub_cancel])
              have HNX := hid (fun (bb : Bool) (e : darkB rp x v k = bb) i => show (decide (i < k + 1) && darkB rp x v i) = (if i = k then bb else (decide (i < k) && darkB rp x v i)) from by
                by_cases hi : i = k
                · rw [if_pos hi, hi, e]; simp
                · rw [if_neg hi]
                  have : decide (i < k + 1) = decide (i < k) := decide_eq_decide.2 (by omega)
                  rw [this])
              generalize hp2 : rp (k + 1) = p2 at *
              generalize hp1 : rp k = p1 at *
              generalize rp (k - 1) = p0 at *
              have HP2 := hid hp2
              have HP1' := hid hp1
              clear hp1 hp2
              by_cases hT : Int.tdiv ((p1 : Int) * 4 - (p0 : Int) - (p2 : Int)) 2 < (v : Int)
              · have HE := hid (HD.out.trans (decide_eq_true hT))
                clear HD
                go_wp2_with fail
                refine sa.mono ?_
                rintro e w8 ⟨rfl, rfl⟩
                clear sa
                go_wp2_with fail
                go_roundw
                case rel => exact ⟨k + 1, _, by omega, by omega, by go_num, by rw [HP1.out], by rw [HP2.out], hid (HL.out.far (p := ⟨ag, k / 32, none⟩) (by simpa using hLag) _), hid ((HM.out.put HSH.out).congr (fun i _ => ((HNX.out true HE.out i).symm))), hid (HB.out.setCell (by simpa using hBag) _)⟩
                case measure => simp [intOf]; omega
              · have HE := hid (HD.out.trans (decide_eq_false hT))
                clear HD sa
                go_wp2_with fail
                go_roundw
                case rel =>
                  refine ⟨k + 1, ws2, by omega, by omega, by go_num, by rw [HP1.out], by rw [HP2.out], HL, hid (HM.out.congr (fun i _ => ?_)), HB⟩
                  rw [HNX.out false HE.out i]
                  by_cases hi : i = k
                  · rw [if_pos hi, hi]; simp
                  · rw [if_neg hi]
                case measure => simp [intOf]; omega
            · obtain rfl : x = k + 1 := by omega
              have hlt' : ¬ (k : Int) < ((k + 1 : Nat) : Int) - 1 := by omega
              generalize hk1x : k + 1 = x at *
              go_wp2_with fail
              go_ret2
              refine ⟨HB.out, .inr ⟨v, a, ag, nw, ws2, HV0.out, rfl, hBa, hBag, HM.out.st.lt, HM.out.bits.lt, hnw7, HM.out.congr (fun i _ => ?_)⟩⟩
              by_cases hi : i < k
              · simp [hi]
              · have : ¬ i + 1 < x := by omega
                simp [hi, darkB, h3, this]
end Go.Proofs.Ytkonepeejhgloaa
