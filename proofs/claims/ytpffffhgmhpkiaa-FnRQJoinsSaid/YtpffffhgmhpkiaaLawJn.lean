/- QR codes: FnRQJoins: the walk of the law. -/
import Derived.Test.YtpffffhgmhpkiaaJnT
import Derived.Deep.DrawnRows
import Derived.StillTailTactics
import Derived.Deep.LoopGhost
import Derived.Deep.CutRange
import Derived.Deep.RegionHeld3
namespace Go.Proofs.Ytpffffhgmhpkiaa
open Go.RowKit
set_option linter.unusedVariables false
set_option linter.unusedSimpArgs false

def TrueOut (w : World) (e : Ending) (w' : World) : Prop := e = .returned (.bool true) ∧ Below w.heap.size w w'
def nOf (many : Nat) (none : Bool) : Nat := if none then 0 else 1 + many % 16
theorem nOf_le (many : Nat) (none : Bool) : nOf many none ≤ 16 := by unfold nOf; split <;> omega
theorem nOf_true (many : Nat) : nOf many true = 0 := rfl
theorem nOf_false (many : Nat) : nOf many false = 1 + many % 16 := rfl
theorem m16 (many : Nat) : (many : Int) % 16 = ((many % 16 : Nat) : Int) ∧ (many : Int).tmod 16 = ((many % 16 : Nat) : Int) := by
  rw [Int.tmod_eq_emod_of_nonneg (Int.natCast_nonneg many)]
  exact ⟨(Int.natCast_emod many 16).symm, (Int.natCast_emod many 16).symm⟩
theorem u8w (i : Nat) (h : i < 256) : IntKind.u8.wrap (i : Int) = (i : Int) := by rw [u8wrapM]; omega
set_option maxRecDepth 20000 in
set_option maxHeartbeats 16000000 in
theorem joins_core (w : World) (s cs od : List Nat) (L : List (List Nat)) (A0 A1 A3 A4 : Option Addr) (n0 c0 n1 c1 n3 c3 n4 c4 many : Nat) (nb : Bool) (hR0 : Rd w A0 n0 (u8s s)) (hc0 : n0 ≤ c0) (h63 : c0 ≤ 9223372036854775807) (hs8 : ∀ x ∈ s, x < 256) (hR1 : Rd w A1 n1 (u8s cs)) (h1 : n1 ≤ 9223372036854775807) (hc8 : ∀ x ∈ cs, x < 256)
    (hR3 : RdL FB 1 w A3 n3 L) (h3 : n3 ≤ 9223372036854775807) (hL8 : ∀ y ∈ L, (∀ c ∈ y, c < 256) ∧ y.length ≤ 9223372036854775807) (hR4 : Rd w A4 n4 (u8s od)) (h4 : n4 ≤ 9223372036854775807) (ho8 : ∀ x ∈ od, x < 256) (hmany : many < 256) :
    Calls Try.prog 3 #[.slice A0 n0 c0, .slice A1 n1 c1, .int .u8 (many : Nat), .slice A3 n3 c3, .slice A4 n4 c4, .bool nb] w (TrueOut w) := by
  obtain ⟨i5, hi5, hz0, hz1, hz2⟩ := info_of info5
  obtain ⟨i29, yi, yz0, yz1, yz2⟩ := info_of29 info29
  have HR0 := hid hR0
  have HS8 := hid hs8
  have HR1 := hid hR1
  have HC8 := hid hc8
  have HR3 := hid hR3
  have HL8 := hid hL8
  have HR4 := hid hR4
  have HO8 := hid ho8
  have ft := fits10Q L A3 n3 c3 w hR3 h3 (fun x hx => (hL8 x hx).2)
  unfold Fits10 at ft
  clear hR0 hs8 hR1 hc8 hR3 hL8 hR4 ho8
  by_cases hb0 : 2147483647 < n0
  · have e0 : decide ((2147483647 : Int) < (n0 : Int)) = true := decide_eq_true (by omega)
    go_enter Try.func3, Try.ntmps3
    go_wp2_with fail
    go_ret
    exact ⟨rfl, Below.refl _ _⟩
  have e0 : decide ((2147483647 : Int) < (n0 : Int)) = false := decide_eq_false (by omega)
  by_cases hb1 : 2147483647 < n1
  · have e1 : decide ((2147483647 : Int) < (n1 : Int)) = true := decide_eq_true (by omega)
    go_enter Try.func3, Try.ntmps3
    go_wp2_with fail
    go_ret
    exact ⟨rfl, Below.refl _ _⟩
  have e1 : decide ((2147483647 : Int) < (n1 : Int)) = false := decide_eq_false (by omega)
  go_enter Try.func3, Try.ntmps3
  go_wp2_with fail
  refine ft.mono ?_
  rintro e w1 ⟨b, rfl, hbt, rfl⟩
  cases b with
  | false =>
    go_wp2_with fail
    go_ret
    exact ⟨rfl, Below.refl _ _⟩
  | true =>
    obtain ⟨hn3, hLs⟩ := hbt rfl
    have HLS := hid hLs
    have HL3 := hid HR3.out.1
    rw [HL3.out] at hn3
    clear ft hbt hLs
    by_cases hb4 : 2147483647 < n4
    · have e4 : (2147483647 : Int) < (n4 : Int) := by omega
      go_wp2_with fail
      go_ret
      exact ⟨rfl, Below.refl _ _⟩
    have e4d : decide ((2147483647 : Int) < (n4 : Int)) = false := decide_eq_false (by omega)
    go_upto_region 3 with fail
    clear e4d e0 e1
    have hn4 : n4 ≤ 2147483647 := by omega
    have hn0 : n0 ≤ 2147483647 := by omega
    have hn1 : n1 ≤ 2147483647 := by omega
    clear hb4 hb0 hb1
    obtain ⟨n, hn⟩ : ∃ n, n = nOf many nb := ⟨_, rfl⟩
    have hn16 : n ≤ 16 := by rw [hn]; exact nOf_le many nb
    have HN := hid hn
    have HN1 := hid (nOf_true many)
    have HN2 := hid (nOf_false many)
    clear hn
    go_upto_if 49 with fail
    go_cut [13] from 50 to 51 (fun nv wx => nv = .int .i64 (n : Nat) ∧ w1 = wx)
    case first =>
      cases nb with
      | true =>
        go_wp2_with fail
        go_meet
        case rel => exact ⟨by rw [HN.out, HN1.out]; rfl, rfl⟩
      | false =>
        go_wp2_with fail
        go_meet
        case rel => exact ⟨by rw [HN.out, HN2.out]; rfl, rfl⟩
    case rest =>
      obtain ⟨rfl, rfl⟩ := hcut
      clear HN HN1 HN2
      go_upto_if 51 with fail
      go_cut [14, 16, 17, 18, 19] from 51 to 82 (fun lv rv v17 v18 v19 wx => ∃ (P : List Nat) (B : Nat), w1.heap.size ≤ B ∧ B ≤ wx.heap.size ∧ Hid (n = 0 ∨ Plc P n s.length ∧ ∀ i, i < n → P.getD i 0 ≤ P.getD (i + 1) 0) ∧ Hid (OwnL FP 4 (offS Al rv) wx B 29 lv (partsL s P n n)) ∧ Hid (Own wx B 5 rv (u8s (rawL s P n))) ∧ Hid (Ap rv lv) ∧ Hid (Below w1.heap.size w1 wx))
      case first =>
        by_cases hn0' : n = 0
        · subst hn0'
          have hz : ¬ (0 : Int) < ((0 : Nat) : Int) := by omega
          go_wp2_with fail
          go_meet
          case rel => exact ⟨[], w1.heap.size, Nat.le_refl _, Nat.le_refl _, hid (.inl (by trivial)), hid (OwnL.nil _ _ _), hid (Own.nil _ _ _), hid (fun k h => by cases h), hid (Below.refl _ _)⟩
        · have hz : (0 : Int) < (n : Int) := by omega
          have hn1' : 1 ≤ n := by omega
          have cq := cutQ s A0 A1 n0 n1 c0 c1 n cs w1 HR0.out (by omega) hc0 HR1.out HC8.out (by omega) hn1' hn16
          unfold CutOut at cq
          clear hn0'
          go_wp2_with fail
          refine cq.mono ?_
          rintro e w2 ⟨A5, c5, P, rfl, hc5, hPl, hso, hOn, hb2⟩
          have HPL := hid (And.intro hPl hso)
          have HON := hid hOn.al
          have HB2 := hid hb2
          clear cq hc5 hPl hso hOn hb2
          go_wp2_with fail
          go_loopw [14, 16, 57] (fun lv rv iv wr => ∃ (i : Nat), i ≤ n ∧ iv = .int .i64 (i : Nat) ∧ Hid (OwnL FP 4 (offS Al rv) wr w2.heap.size 29 lv (partsL s P n i)) ∧ Hid (Own wr w2.heap.size 5 rv (u8s (rawL s P i))) ∧ Hid (Ap rv lv) ∧ Hid (Below w2.heap.size w2 wr)) (fun _ _ iv _ => n - (intOf iv).toNat)
          case atStart => exact ⟨0, by omega, rfl, hid (OwnL.nil _ _ _), hid (Own.nil _ _ _), hid (fun k h => by cases h), hid (Below.refl _ _)⟩
          case round =>
            obtain ⟨i, hi, rfl, HL, HR, HAP, HB⟩ := hrel
            have hbs := HB.out.size
            by_cases hlt : i < n
            · have hlt' : (i : Int) < (n : Int) := by omega
              obtain ⟨bb, ob, Rp, cp, hA5, hbb, d00, hcp, hOp⟩ := fbOn HON.out i hlt
              subst hA5
              have d0 := (HB.out.cell (p := ⟨bb, ob + i, none⟩) hbb).trans d00
              clear d00
              have hpe : ((List.range n).map (cutAt s P)).getD i [] = cutAt s P i := by rw [List.getD, List.getElem?_map, List.getElem?_range hlt]; rfl
              rw [hpe] at d0 hcp hOp
              have hple := cut_le s P i
              rw [show s.length = n0 from by have := HR0.out.1; rwa [u8s_len] at this] at hple
              obtain ⟨pt, hpt⟩ : ∃ pt, pt = cutAt s P i := ⟨_, rfl⟩
              rw [← hpt] at d0 hcp hOp hple
              have HPT := hid hpt
              obtain ⟨pl, hpl⟩ : ∃ pl, pl = pt.length := ⟨_, rfl⟩
              rw [← hpl] at d0 hcp hOp hple
              have HPLN := hid hpl
              have hrl := rawL_len s P i
              rw [show s.length = n0 from by have := HR0.out.1; rwa [u8s_len] at this] at hrl
              have hrl2 : (rawL s P i).length ≤ 34359738400 := Nat.le_trans hrl (Nat.le_trans (Nat.mul_le_mul (show i ≤ 16 by omega) (show n0 + 1 ≤ 2147483648 by omega)) (by decide))
              have HOP := hid hOp.bl
              have HLIT := hid (Own.lit1 wr 5 (.int .u8 (i : Nat)))
              have HRP := hid ((hOp.bl.below HB.out).alloc (.cells #[.int .u8 (i : Nat)] 5)).here
              clear hpt hpl hpe hOp hrl
              have m1 := hid (show ([Value.int .u8 (i : Nat)] : List Value).length + pl ≤ maxLen from by simp only [List.length_singleton, maxLen]; omega)
              have m2 := hid (show (([Value.int .u8 (i : Nat)] : List Value).length + pl) * 1 ≤ 140737488355328 from by simp only [List.length_singleton]; omega)
              go_wp2_with ((at_builtin; generalize hlv : Value.slice (some ⟨wr.heap.size, 0, none⟩) 1 1 = lv at *; refine wpList_app _ rfl _ _ 22 rfl wr.heap.size 5 i5 _ 1 Try.underlying22 hi5 hz0 hz1 hz2 rfl _ [.int .u8 (i : Nat)] rfl ?_ Rp pl cp (u8s pt) rfl ?_ (u8s_one _) m1.out m2.out (by rw [World.size_alloc]; omega) ?_))
              · exact HLIT.out
              · exact HRP.out
              intro v5 w5 hO5 hg5 ho5
              have HO5 := hid (show Own w5 wr.heap.size 5 v5 (u8s (i :: pt)) from hO5)
              have hb5 : Below wr.heap.size wr w5 := ((Below.refl wr.heap.size wr).alloc (Nat.le_refl _) (.cells #[.int .u8 (i : Nat)] 5)).grown hg5 (by rw [World.size_alloc]; omega) (fun k hk => by rw [← hlv] at hk; have e : some wr.heap.size = some k := hk; injection e with e; omega)
              obtain ⟨A6, c6, hv5, hR5, hc5⟩ := HO5.out.form
              rw [u8s_len, List.length_cons, ← HPLN.out] at hv5 hR5 hc5
              subst hv5
              have hA6 := HO5.out.blk
              have HL5 := hid (HL.out.below hb5 (Nat.le_refl _))
              have HR5 := hid (HR.out.below hb5 (fun k hk => (HR.out.lt k hk).2))
              have hb5s := hb5.size
              have HB5 := hid (HB.out.trans (hb5.mono hbs))
              have HRD5 := hid hR5
              have HC5 := hid hc5
              have HA6 := hid hA6
              have m3 := hid (show (u8s (rawL s P i)).length + (pl + 1) ≤ maxLen from by rw [u8s_len]; simp only [maxLen]; omega)
              have m4 := hid (show ((u8s (rawL s P i)).length + (pl + 1)) * 1 ≤ 140737488355328 from by rw [u8s_len]; omega)
              clear hO5 hg5 ho5 hlv HLIT HRP m1 m2 hb5 hR5 hc5 hA6
              go_wp2_with ((at_builtin; refine wpList_app _ rfl _ _ 22 rfl w2.heap.size 5 i5 _ 1 Try.underlying22 hi5 hz0 hz1 hz2 rfl _ (u8s (rawL s P i)) rfl ?_ A6 (pl + 1) c6 (u8s (i :: pt)) rfl ?_ (u8s_one _) m3.out m4.out (by omega) ?_))
              · exact HR5.out
              · exact HRD5.out
              intro v6 w6 hO6 hg6 ho6
              have HR6 := hid (show Own w6 w2.heap.size 5 v6 (u8s (rawL s P (i + 1))) from by rw [rawL_succ, ← HPT.out, u8s_append]; exact hO6)
              have HL6 := hid (HL5.out.other hg6 ho6 HAP.out.ne)
              have HAP6 := hid (HAP.out.app ho6 (fun k hk => Nat.lt_of_lt_of_le (HL.out.lt k hk).2 hb5s))
              have HV6 := hid (HO5.out.keep hg6 (by
                cases hvb : A6 with
                | none => exact .inl rfl
                | some a => exact .inr (fun e => by
                    have h1 := (HA6.out a hvb).1
                    have h2 := (HR.out.lt a.block (by rw [← e]; rfl)).2
                    omega)))
              have hvA : ∀ a, A6 = some a → v6.ownBlock ≠ some a.block := fun a ha e => by
                have h1 := HA6.out a ha
                rcases ho6 with h | h
                · rw [h] at e; have := (HR.out.lt _ e).2; omega
                · rw [h] at e; injection e with e; omega
              have HB6 := hid (below_app HB5.out HR5.out hg6 (Nat.le_refl _) HB5.out.size)
              have HCO := hid (show On (offS (offS Al v6) _) w6 (fun W => Rd W A6 (pl + 1) (u8s (i :: pt))) from On.rd HV6.out.rd' (fun _ a ha => ⟨⟨trivial, hvA a ha⟩, fun e => by have h1 := HA6.out a ha; have h2 := (HL.out.lt _ e).2; omega⟩))
              have HCP := hid (show On (offS (offS Al v6) _) w6 (fun W => Rd W Rp pl (u8s pt)) from (HOP.out.below HB6.out).mono (fun g _ h2 => ⟨⟨trivial, fun e => by have := (HR6.out.lt _ e).1; unfold Bel at h2; omega⟩, fun e => by have := (HL.out.lt _ e).1; unfold Bel at h2; omega⟩))
              have hw6 := hg6.size
              clear hO6 hg6 ho6 HL5 HR5 HRD5 m3 m4 hvA
              have hRp := HCP.out.here
              have cvA := rd_str (c := cp) hRp
              obtain ⟨st, hst⟩ : ∃ st, st = strOf pt := ⟨_, rfl⟩
              have cvB := rd_str (c := cp) hRp.drew
              have cvC := rd_str (c := cp) (hRp.drew.alloc (.cells #[.slice Rp pl cp] 22))
              have cvD := rd_str (c := cp) (hRp.alloc (.cells #[.slice Rp pl cp] 22)).drew
              rw [← hst] at cvA cvB cvC cvD
              have cvX := fun (W : World) (h : Rd W Rp pl (u8s pt)) => rd_str (c := cp) h
              rw [← hst] at cvX
              have HRX := hid hRp
              have CVX := hid cvX
              clear cvX
              have HST := hid hst
              have sq := fun (W : World) => seqQ i (n - 1) (by omega) (by omega) W
              rw [show ((n - 1 : Nat) : Int) + 1 = (n : Int) by omega] at sq
              have HLLN := hid (show (partsL s P n i).length = i from by simp [partsL])
              clear hst hRp
              obtain ⟨wA, hwA⟩ : ∃ wA, wA = w6.alloc (.cells #[.slice Rp pl cp] 22) := ⟨_, rfl⟩
              obtain ⟨X, hX⟩ : ∃ X : List Value, X = [.string st, .slice A6 (pl + 1) c6, .slice (some ⟨w6.heap.size, 0, none⟩) 1 1, .int .i64 ((16 * i + (n - 1) : Nat) : Int)] := ⟨_, rfl⟩
              have hAs : wA.heap.size = w6.heap.size + 1 := by rw [hwA, World.size_alloc]
              have HOW := hid (show OwnL FP 4 (offS Al v6) (wA.alloc (.cells X.toArray 29)) w2.heap.size 29 _ (partsL s P n i) from by rw [hwA]; exact (HL6.out.alloc _).alloc _)
              have HCN := hid (show ∀ j u, X[j]? = some u → (wA.alloc (.cells X.toArray 29)).cell? ((⟨w6.heap.size + 1, 0, none⟩ : Addr).add j) = some u from by
                have := cell_new wA X.toArray 29 (w6.heap.size + 1) hAs.symm
                simpa using this)
              have HLA := hid (show Arr wA w6.heap.size 22 [.slice Rp pl cp] from by rw [hwA]; exact Arr.of_new _ _ _)
              have HQF := hid (show On (offS (offS Al v6) _) (wA.alloc (.cells X.toArray 29)) (fun W => FP W X (partL s P n i)) from by
                rw [hX, show partL s P n i = ⟨pt, i :: pt, [pt], ((16 * i + (n - 1) : Nat) : Int)⟩ from by unfold partL; rw [← HPT.out], HST.out]
                refine On.alloc ?_ _
                refine fpOn (q := ⟨pt, i :: pt, [pt], ((16 * i + (n - 1) : Nat) : Int)⟩) (by rw [List.length_cons, ← HPLN.out]) HC5.out (by rw [hwA]; exact HCO.out.alloc _) rfl ?_
                exact segOn1 HLA.out (by rw [hwA]; exact HCP.out.alloc _) HPLN.out hcp ⟨⟨trivial, fun e => by have := (HR6.out.lt _ e).2; omega⟩, fun e => by have := (HL6.out.lt _ e).2; omega⟩)
              have hX1 : ∀ u ∈ X, u.oneCell' = true := by rw [hX]; simp [Value.oneCell']
              have HX1 := hid hX1
              have hXl : X.length = 4 := by rw [hX]; rfl
              have HXL := hid hXl
              have hBs := hid (show w2.heap.size ≤ (wA.alloc (.cells X.toArray 29)).heap.size from by rw [World.size_alloc, hAs]; have := HB6.out.size; omega)
              have HWA := hid hwA
              have HX := hid hX
              have n1 := hid (show (partsL s P n i).length + 1 ≤ maxLen from by rw [HLLN.out]; simp only [maxLen]; omega)
              have n2 := hid (show ((partsL s P n i).length + 1) * 72 ≤ 140737488355328 from by rw [HLLN.out]; omega)
              clear hX1 hXl hAs hwA hX
              rw [HX.out, HWA.out] at HOW HCN HQF hBs
              rw [HX.out] at HX1 HXL
              go_wp2_with fail
              go_region_held3 (fun w' => (convert 22 9 (.slice Rp pl cp)).run Try.prog w' = .ok (.string st) w')
                (first
                | exact CVX.out _ HRX.out
                | exact CVX.out _ R9.out
                | exact CVX.out _ R9.out.drew
                | exact CVX.out _ HRX.out.drew
                | exact CVX.out _ (HRX.out.alloc _)
                | exact CVX.out _ (HRX.out.alloc _).drew
                | exact CVX.out _ (HRX.out.drew.alloc _)
                | exact CVX.out _ ((HRX.out.alloc _).alloc _)
                | exact CVX.out _ ((HRX.out.alloc _).alloc _).drew
                | exact CVX.out _ ((HRX.out.alloc _).drew.alloc _)
                | exact CVX.out _ ((HRX.out.drew.alloc _).alloc _))
                (first
                | (go_at_call 8; ((with_reducible refine (sq _).mono ?_); rintro e w7 ⟨rfl, rfl⟩))
                | (refine step_appL (F := FP) (S := offS Al v6) _ (by rfl) _ _ 25 (by rfl) w2.heap.size 29 i29 _ 4 72 Try.underlying25 yi yz0 yz1 yz2 rfl (by omega) _ (partsL s P n i) (by rfl) HOW.out ⟨w6.heap.size + 1, 0, none⟩ 1 _ (partL s P n i) (by rfl) HXL.out HCN.out HX1.out HQF.out n1.out n2.out hBs.out ?_; intro v9 w9 hO9 hg9 ho9; have R9 := hid ((((HCP.out.alloc (.cells #[.slice Rp pl cp] 22)).alloc (.cells #[.string st, .slice A6 (pl + 1) c6, .slice (some ⟨w6.heap.size, 0, none⟩) 1 1, .int .i64 ((16 * i + (n - 1) : Nat) : Int)] 29)).drew).app hg9 ho9).here))
              all_goals (
                have HL9 := hid (show OwnL FP 4 (offS Al v6) w9 w2.heap.size 29 v9 (partsL s P n (i + 1)) from by rw [partsL_succ]; exact hO9)
                have HR9 := hid (show Own w9 w2.heap.size 5 v6 (u8s (rawL s P (i + 1))) from by
                  refine Own.keep ?_ hg9 HAP6.out.symm.ne
                  exact (HR6.out.alloc _).alloc _)
                have HAP9 := hid ((HAP6.out.symm.app ho9 (fun k hk => by have := (HR6.out.lt k hk).2; first | omega | (simp; omega))).symm)
                have HB9 := hid (show Below w2.heap.size w2 w9 from by
                  have hz := HB6.out.size
                  refine Below.grown ?_ hg9 ?_ (fun k hk => (HL6.out.lt k hk).1)
                  · have hz2 : w2.heap.size ≤ (w6.alloc (.cells #[.slice Rp pl cp] 22)).heap.size := by rw [World.size_alloc]; omega
                    first | exact ((HB6.out.alloc hz (.cells #[.slice Rp pl cp] 22)).alloc hz2 _).drew | exact (HB6.out.alloc hz (.cells #[.slice Rp pl cp] 22)).alloc hz2 _ | exact ((HB6.out.alloc hz (.cells #[.slice Rp pl cp] 22)).drew.alloc hz2 _)
                  · first | exact hBs.out | (simp; omega))
                clear hO9 hg9 ho9 HOW HCN HQF hBs HX1 HXL sq cvA cvB cvC cvD HCO HCP
                go_wp2_with fail
                go_roundw
                case rel => first | exact ⟨i + 1, by omega, by go_num, HL9, HR9, HAP9, HB9⟩ | ((repeat apply Exists.intro); exact ⟨⟨i + 1, by omega, rfl, HL9, HR9, HAP9, HB9⟩, rfl⟩)
                case measure => first | (simp [intOf]; done) | (simp [intOf]; omega))
            · obtain rfl : i = n := by omega
              have hlt' : ¬ (i : Int) < (i : Int) := by omega
              have HBM := hid (HB2.out.trans (HB.out.mono HB2.out.size))
              go_wp2_with fail
              go_meet
              case rel => exact ⟨P, w2.heap.size, HB2.out.size, hbs, hid (.inr HPL.out), HL, HR, HAP, HBM⟩
      case rest =>
        obtain ⟨P, B, hB1, hBz0, HPL, HL, HR, HAP, HB⟩ := hcut
        have HON3 := hid (rdl_on HR3.out)
        have HL0 := hid (show OwnL FP 4 (offS Al u16) wc B 29 u14 (partsL s P n n ++ othL L 0) from by
          rw [show othL L 0 = [] from rfl, List.append_nil]; exact HL.out)
        go_wp2_with fail
        go_loopw [14, 85] (fun lv iv wr => ∃ (i : Nat), i ≤ n3 ∧ B ≤ wr.heap.size ∧ iv = .int .i64 (i : Nat) ∧ Hid (OwnL FP 4 (offS Al u16) wr B 29 lv (partsL s P n n ++ othL L i)) ∧ Hid (Own wr B 5 u16 (u8s (rawL s P n))) ∧ Hid (Ap u16 lv) ∧ Hid (Below w1.heap.size w1 wr)) (fun _ iv _ => n3 - (intOf iv).toNat)
        case atStart => exact ⟨0, by omega, hBz0, rfl, HL0, HR, HAP, HB⟩
        case round =>
          clear HL HL0 HR HAP HB hBz0
          obtain ⟨i, hi, hBz, rfl, HL, HR, HAP, HB⟩ := hrel
          have hbs := HB.out.size
          by_cases hlt : i < n3
          · have hlt' : (i : Int) < (n3 : Int) := by omega
            obtain ⟨bb, ob, Rp, cp, hA3, hbb, d00, hcp, hOp⟩ := fbOn HON3.out i hlt
            subst hA3
            have d0 := (HB.out.cell (p := ⟨bb, ob + i, none⟩) hbb).trans d00
            have hiL : i < L.length := by rw [HL3.out]; exact hlt
            have HMORE := hid (fun h => othL_more L i h)
            have HSUCC := hid (fun h => othL_succ L i hiL h)
            have HOP := hid hOp.bl
            generalize L.getD i [] = pt at *
            obtain ⟨pl, hpl⟩ : ∃ pl, pl = pt.length := ⟨_, rfl⟩
            rw [← hpl] at d0 hcp HOP
            have HPLN := hid hpl
            clear hpl hOp d00 hiL
            by_cases h4 : i < 4
            · have h4' : (i : Int) < 4 := by omega
              have oq := otherQ pt Rp pl cp wr (HOP.out.below HB.out).here
              unfold OtherOut at oq
              obtain ⟨st, hst⟩ : ∃ st, st = strOf pt := ⟨_, rfl⟩
              rw [← hst] at oq
              have HST := hid hst
              clear hst
              go_wp2_with fail
              refine oq.mono ?_
              rintro e w5 ⟨g, rfl, hA5, hg5, hb5⟩
              have HL5 := hid (HL.out.below hb5 (Nat.le_refl _))
              have HR5 := hid (HR.out.below hb5 (fun k hk => (HR.out.lt k hk).2))
              have HB5 := hid (HB.out.trans (hb5.mono hbs))
              have hb5s := hb5.size
              have HQ5 := hid (show On (offS (offS Al u16) _) w5 (fun W => FP W [.string st, .slice Rp pl cp, .slice (some ⟨g, 0, none⟩) 1 1, .int .i64 (-1)] ⟨pt, pt, [pt], -1⟩) from by
                rw [HST.out]
                have hO : On (offS (offS Al u16) _) w5 (fun W => Rd W Rp pl (u8s pt)) := (HOP.out.below HB5.out).mono (fun g _ h2 => ⟨⟨trivial, fun e => by have := (HR.out.lt _ e).1; unfold Bel at h2; omega⟩, fun e => by have := (HL.out.lt _ e).1; unfold Bel at h2; omega⟩)
                refine fpOn (q := ⟨pt, pt, [pt], -1⟩) HPLN.out hcp hO rfl ?_
                exact segOn1 hA5 hO HPLN.out hcp ⟨⟨trivial, fun e => by have := (HR.out.lt _ e).2; omega⟩, fun e => by have := (HL.out.lt _ e).2; omega⟩)
              have hlen : (partsL s P n n ++ othL L i).length ≤ 20 := by
                rw [List.length_append, partsL, List.length_map, List.length_range, othL, List.length_map, List.length_take]; omega
              have HLEN := hid hlen
              clear oq hA5 hb5 hlen
              go_wp2_with ((at_builtin; refine wpList_appK (F := FP) (S := offS Al u16) _ rfl _ _ 25 rfl B 29 i29 _ 4 72 Try.underlying25 yi yz0 yz1 yz2 rfl (by omega) _ (partsL s P n n ++ othL L i) rfl ?_ ⟨w5.heap.size, 0, none⟩ 1 [.string st, .slice Rp pl cp, .slice (some ⟨g, 0, none⟩) 1 1, .int .i64 (-1)] ⟨pt, pt, [pt], -1⟩ rfl rfl (cell_new w5 #[.string st, .slice Rp pl cp, .slice (some ⟨g, 0, none⟩) 1 1, .int .i64 (-1)] 29 _ rfl) ?_ ?_ ?_ ?_ ?_ ?_))
              · exact HL5.out.alloc _
              · simp [Value.oneCell']
              · exact HQ5.out.alloc _
              · have := HLEN.out; simp only [maxLen]; omega
              · have := HLEN.out; omega
              · rw [World.size_alloc]; omega
              intro v6 w6 hO6 hg6 ho6
              have HL6 := hid (show OwnL FP 4 (offS Al u16) w6 B 29 v6 (partsL s P n n ++ othL L (i + 1)) from by
                rw [HSUCC.out h4, ← List.append_assoc]
                first | exact hO6 | (rw [List.append_assoc]; exact hO6))
              have HR6 := hid (show Own w6 B 5 u16 (u8s (rawL s P n)) from by
                refine Own.keep ?_ hg6 HAP.out.symm.ne
                exact HR5.out.alloc _)
              have HAP6 := hid ((HAP.out.symm.app ho6 (fun k hk => by have := (HR5.out.lt k hk).2; first | omega | (simp; omega))).symm)
              have hz6 := hg6.size
              rw [World.size_alloc] at hz6
              have HB6 := hid (show Below w1.heap.size w1 w6 from by
                have hz := HB5.out.size
                refine Below.grown (HB5.out.alloc hz _) hg6 (by rw [World.size_alloc]; omega) (fun k hk => Nat.le_trans hB1 (HL5.out.lt k hk).1))
              have hBz6 : B ≤ w6.heap.size := by omega
              clear hO6 hg6 ho6 hz6
              go_wp2_with fail
              go_roundw
              case rel => first | exact ⟨i + 1, by omega, hBz6, by go_num, HL6, HR6, HAP6, HB6⟩ | ((repeat apply Exists.intro); exact ⟨⟨i + 1, by omega, hBz6, rfl, HL6, HR6, HAP6, HB6⟩, rfl⟩)
              case measure => first | (simp [intOf]; done) | (simp [intOf]; omega)
            · have h4' : ¬ (i : Int) < 4 := by omega
              have HL6 := hid (show OwnL FP 4 (offS Al u16) wr B 29 _ (partsL s P n n ++ othL L (i + 1)) from by rw [HMORE.out (by omega)]; exact HL.out)
              go_wp2_with fail
              go_roundw
              case rel => first | exact ⟨i + 1, by omega, hBz, by go_num, HL6, HR, HAP, HB⟩ | ((repeat apply Exists.intro); exact ⟨⟨i + 1, by omega, hBz, rfl, HL6, HR, HAP, HB⟩, rfl⟩)
              case measure => first | (simp [intOf]; done) | (simp [intOf]; omega)
          · obtain rfl : i = n3 := by omega
            have hlt' : ¬ (i : Int) < (i : Int) := by omega
            obtain ⟨l, hl⟩ : ∃ l, l = partsL s P n n ++ othL L i := ⟨_, rfl⟩
            have hll : l.length ≤ 20 := by rw [hl, List.length_append, partsL, List.length_map, List.length_range, othL, List.length_map, List.length_take, List.length_take]; omega
            have HLN := hid hl
            rw [← hl] at HL
            obtain ⟨A14, c14, hv14, hc14⟩ := HL.out.form
            obtain ⟨nl, hnl⟩ : ∃ nl, nl = l.length := ⟨_, rfl⟩
            rw [← hnl] at hv14 hll hc14
            have HNL := hid hnl
            subst hv14
            have HLD := hid (show On Al wr (fun W => RdL FP 4 W A14 nl l) from HL.out.rdl hnl (fun _ _ => trivial) (fun _ _ => trivial))
            have oq := orderQ nl (by omega) A4 n4 c4 od wr (HR4.out.below HB.out) HO8.out (by omega)
            unfold OrderOut at oq
            clear hl hnl hlt hc14
            go_wp2_with fail
            refine oq.mono ?_
            rintro e w5 ⟨Ao, co, o, rfl, hco, hRo, hpm, hb5⟩
            have HRO := hid hRo
            have HPM := hid hpm
            have HLD5 := hid (HLD.out.below hb5)
            have HR5 := hid (HR.out.below hb5 (fun k hk => (HR.out.lt k hk).2))
            have HB5 := hid (HB.out.trans (hb5.mono HB.out.size))
            have hb5s := hb5.size
            clear oq hco hRo hpm hb5 HL HAP HR HB HLD HON3
            go_wp2_with fail
            obtain ⟨mx, hmx⟩ : ∃ mx : Nat → List QP, mx = fun j => (o.take j).map (fun k => l.getD k qp0) := ⟨_, rfl⟩
            obtain ⟨wx, hwx⟩ : ∃ wx : Nat → List QP, wx = fun j => (mx j).filter (fun q => decide (q.s < 0)) := ⟨_, rfl⟩
            have HMX0 := hid (show mx 0 = [] from by rw [hmx]; rfl)
            have HWX0 := hid (show wx 0 = [] from by rw [hwx, hmx]; rfl)
            have hol : o.length = nl := by have := HPM.out.length_eq; rwa [List.length_range] at this
            have HMXS := hid (fun j (hj : j < nl) => show mx (j + 1) = mx j ++ [l.getD (o.getD j 0) qp0] from by rw [hmx]; simp only; rw [take_succD o j 0 (by omega), List.map_append]; rfl)
            have HWXS := hid (fun j (hj : j < nl) => show wx (j + 1) = wx j ++ (if decide ((l.getD (o.getD j 0) qp0).s < 0) = true then [l.getD (o.getD j 0) qp0] else []) from by
              rw [hwx]; simp only; rw [HMXS.out j hj, List.filter_append]; simp only [List.filter_cons, List.filter_nil])
            have HMXL := hid (fun j => show (mx j).length ≤ 20 from by rw [hmx]; simp only; rw [List.length_map, List.length_take]; omega)
            have HWXL := hid (fun j => show (wx j).length ≤ 20 from by have h1 := HMXL.out j; rw [hwx]; simp only; have := List.length_filter_le (fun q : QP => decide (q.s < 0)) (mx j); omega)
            have HMXE := hid (show mx nl = o.map (fun k => l.getD k qp0) from by rw [hmx]; simp only; rw [List.take_of_length_le (by omega)])
            have HWXE := hid (show wx nl = (mx nl).filter (fun q => decide (q.s < 0)) from by rw [hwx])
            have HOB := hid (fun j (hj : j < nl) => show o.getD j 0 < nl from by
              rw [List.getD, List.getElem?_eq_getElem (by omega)]
              exact List.mem_range.1 (HPM.out.subset (List.getElem_mem _)))
            have HOLN := hid hol
            clear hmx hwx hol
            go_loopw [15, 22, 103] (fun wv mv iv wr => ∃ (j : Nat), j ≤ nl ∧ iv = .int .i64 (j : Nat) ∧ Hid (OwnL FP 4 (Bel w5.heap.size) wr w5.heap.size 29 wv (wx j)) ∧ Hid (OwnL FP 4 (Bel w5.heap.size) wr w5.heap.size 29 mv (mx j)) ∧ Hid (Ap mv wv) ∧ Hid (Below w5.heap.size w5 wr)) (fun _ _ iv _ => nl - (intOf iv).toNat)
            case atStart => exact ⟨0, by omega, rfl, hid (by rw [HWX0.out]; exact OwnL.nil _ _ _), hid (by rw [HMX0.out]; exact OwnL.nil _ _ _), hid (fun k h => by cases h), hid (Below.refl _ _)⟩
            case round =>
              obtain ⟨j, hj, rfl, HW, HM, HAP, HB⟩ := hrel
              have hbs5 := HB.out.size
              by_cases hlt : j < nl
              · have hlt' : (j : Int) < (nl : Int) := by omega
                obtain ⟨bo, oo, hAo, hbo, hco⟩ := HRO.out.2 (by omega)
                subst hAo
                have e0 := hco j (by rw [ints_len, HOLN.out]; exact hlt)
                rw [show (ints o)[j]'(by rw [ints_len, HOLN.out]; exact hlt) = .int .i64 (o.getD j 0 : Nat) from by
                  have := ints_rng o j (by rw [HOLN.out]; exact hlt)
                  rw [List.getElem?_eq_getElem (by rw [ints_len, HOLN.out]; exact hlt)] at this
                  exact Option.some.inj this] at e0
                have e1 := (HB.out.cell (p := ⟨bo, oo + j, none⟩) hbo).trans e0
                have hkb := HOB.out j hlt
                have HM1 := hid (HMXS.out j hlt)
                have HW1 := hid (HWXS.out j hlt)
                generalize o.getD j 0 = k at *
                obtain ⟨bl, ol, R, cR, G, cG, hA, hbl, _, f0, f1, f2, f3, hrc, hOn⟩ := partOn HLD5.out k hkb
                subst hA
                have HON5 := hid hOn.bl
                have HF := hid (show On (Bel w5.heap.size) w5 (fun W => FP W [.string (strOf (l.getD k qp0).t), .slice R (l.getD k qp0).r.length cR, .slice G (l.getD k qp0).g.length cG, .int .i64 (l.getD k qp0).s] (l.getD k qp0)) from
                  fpOn rfl hrc (hOn.bl.imp (fun _ h => h.1)) rfl (hOn.bl.imp (fun _ h => h.2)))
                generalize l.getD k qp0 = q at *
                have g0 := (HB.out.cell (p := ⟨bl, ol + k * 4, none⟩) hbl).trans f0
                have g1 := (HB.out.cell (p := ⟨bl, ol + k * 4 + 1, none⟩) hbl).trans f1
                have g2 := (HB.out.cell (p := ⟨bl, ol + k * 4 + 2, none⟩) hbl).trans f2
                have g3 := (HB.out.cell (p := ⟨bl, ol + k * 4 + 3, none⟩) hbl).trans f3
                generalize strOf q.t = st at *
                generalize hrl : q.r.length = rl at *
                generalize hgl : q.g.length = gl at *
                generalize hsq : q.s = sq at *
                have HSQ := hid hsq
                have F0 := hid f0
                have F1 := hid f1
                have F2 := hid f2
                have F3 := hid f3
                have hk0 : (0 : Int) ≤ (k : Int) := by omega
                have hk1 : (k : Int) < (nl : Int) := by omega
                have HQ1 := hid (HF.out.below HB.out)
                have hL1 := HMXL.out j
                have hL2 := HWXL.out j
                have h1c := hid (show ∀ u ∈ [Value.string st, .slice R rl cR, .slice G gl cG, .int .i64 sq], u.oneCell' = true from by simp [Value.oneCell'])
                have HLa := hid (show (mx j).length + 1 ≤ maxLen from by simp only [maxLen]; omega)
                have HLb := hid (show ((mx j).length + 1) * 72 ≤ 140737488355328 from by omega)
                have HLc := hid (show w5.heap.size ≤ (wr.alloc (.cells #[.string st, .slice R rl cR, .slice G gl cG, .int .i64 sq] 29)).heap.size from by rw [World.size_alloc]; omega)
                have HKa := hid (show (wx j).length + 1 ≤ maxLen from by simp only [maxLen]; omega)
                have HKb := hid (show ((wx j).length + 1) * 72 ≤ 140737488355328 from by omega)
                clear e0 f0 f1 f2 f3 hco hOn hrl hgl hsq hrc hL1 hL2
                go_wp2_with ((at_builtin; refine wpList_appK (F := FP) (S := Bel w5.heap.size) _ rfl _ _ 25 rfl w5.heap.size 29 i29 _ 4 72 Try.underlying25 yi yz0 yz1 yz2 rfl (by omega) _ (mx j) rfl ?_ ⟨wr.heap.size, 0, none⟩ 1 [.string st, .slice R rl cR, .slice G gl cG, .int .i64 sq] q rfl rfl (cell_new wr #[.string st, .slice R rl cR, .slice G gl cG, .int .i64 sq] 29 _ rfl) h1c.out ?_ HLa.out HLb.out HLc.out ?_))
                · exact HM.out.alloc _
                · exact (HQ1.out.alloc _).offBel (fun k hk => (HM.out.lt k hk).1)
                intro v6 w6 hO6 hg6 ho6
                have HM6 := hid (show OwnL FP 4 (Bel w5.heap.size) w6 w5.heap.size 29 v6 (mx (j + 1)) from by rw [HM1.out]; exact hO6)
                have HW6 := hid ((HW.out.alloc (.cells #[.string st, .slice R rl cR, .slice G gl cG, .int .i64 sq] 29)).grown hg6 HAP.out.ne (fun k hk h2 => by have := (HM.out.lt k hk).1; unfold Bel at h2; omega))
                have HAP6 := hid (HAP.out.app ho6 (fun k hk => by have := (HW.out.lt k hk).2; first | omega | (simp; omega)))
                have HB6 := hid (below_appL (HB.out.alloc hbs5 (.cells #[.string st, .slice R rl cR, .slice G gl cG, .int .i64 sq] 29)) (HM.out.alloc _) hg6 (Nat.le_refl _) HLc.out)
                have HQ6 := hid (HF.out.below HB6.out)
                have hz6 := HB6.out.size
                have j0 := (HB6.out.cell (p := ⟨bl, ol + k * 4, none⟩) hbl).trans F0.out
                have j1 := (HB6.out.cell (p := ⟨bl, ol + k * 4 + 1, none⟩) hbl).trans F1.out
                have j2 := (HB6.out.cell (p := ⟨bl, ol + k * 4 + 2, none⟩) hbl).trans F2.out
                have j3 := (HB6.out.cell (p := ⟨bl, ol + k * 4 + 3, none⟩) hbl).trans F3.out
                have HKc := hid (show w5.heap.size ≤ (w6.alloc (.cells #[.string st, .slice R rl cR, .slice G gl cG, .int .i64 sq] 29)).heap.size from by rw [World.size_alloc]; omega)
                clear hO6 hg6 ho6 g0 g1 g2 g3 e1
                by_cases hneg : sq < 0
                · have hneg' : decide (sq < 0) = true := decide_eq_true hneg
                  rw [hneg', if_pos rfl] at HW1
                  clear hneg'
                  go_wp2_with ((at_builtin; refine wpList_appK (F := FP) (S := Bel w5.heap.size) _ rfl _ _ 25 rfl w5.heap.size 29 i29 _ 4 72 Try.underlying25 yi yz0 yz1 yz2 rfl (by omega) _ (wx j) rfl ?_ ⟨w6.heap.size, 0, none⟩ 1 [.string st, .slice R rl cR, .slice G gl cG, .int .i64 sq] q rfl rfl (cell_new w6 #[.string st, .slice R rl cR, .slice G gl cG, .int .i64 sq] 29 _ rfl) h1c.out ?_ HKa.out HKb.out HKc.out ?_))
                  · exact HW6.out.alloc _
                  · exact (HQ6.out.alloc _).offBel (fun k hk => (HW6.out.lt k hk).1)
                  intro v7 w7 hO7 hg7 ho7
                  have HW7 := hid (show OwnL FP 4 (Bel w5.heap.size) w7 w5.heap.size 29 v7 (wx (j + 1)) from by rw [HW1.out]; exact hO7)
                  have HM7 := hid ((HM6.out.alloc (.cells #[.string st, .slice R rl cR, .slice G gl cG, .int .i64 sq] 29)).grown hg7 HAP6.out.symm.ne (fun k hk h2 => by have := (HW6.out.lt k hk).1; unfold Bel at h2; omega))
                  have HAP7 := hid ((HAP6.out.symm.app ho7 (fun k hk => by have := (HM6.out.lt k hk).2; first | omega | (simp; omega))).symm)
                  have HB7 := hid (below_appL (HB6.out.alloc hz6 (.cells #[.string st, .slice R rl cR, .slice G gl cG, .int .i64 sq] 29)) (HW6.out.alloc _) hg7 (Nat.le_refl _) HKc.out)
                  clear hO7 hg7 ho7
                  go_wp2_with fail
                  go_roundw
                  case rel => first | exact ⟨j + 1, by omega, by go_num, HW7, HM7, HAP7, HB7⟩ | ((repeat apply Exists.intro); exact ⟨⟨j + 1, by omega, rfl, HW7, HM7, HAP7, HB7⟩, rfl⟩)
                  case measure => first | (simp [intOf]; done) | (simp [intOf]; omega)
                · have hneg' : decide (sq < 0) = false := decide_eq_false hneg
                  rw [hneg', if_neg (by decide), List.append_nil] at HW1
                  have HW7 := hid (show OwnL FP 4 (Bel w5.heap.size) w6 w5.heap.size 29 u15 (wx (j + 1)) from by rw [HW1.out]; exact HW6.out)
                  clear hneg'
                  go_wp2_with fail
                  go_roundw
                  case rel => first | exact ⟨j + 1, by omega, by go_num, HW7, HM6, HAP6, HB6⟩ | ((repeat apply Exists.intro); exact ⟨⟨j + 1, by omega, rfl, HW7, HM6, HAP6, HB6⟩, rfl⟩)
                  case measure => first | (simp [intOf]; done) | (simp [intOf]; omega)
              · obtain rfl : j = nl := by omega
                have hlt' : ¬ (j : Int) < (j : Int) := by omega
                obtain ⟨M, hM⟩ : ∃ M, M = mx j := ⟨_, rfl⟩
                have hMp : M.Perm l := by rw [hM, HMXE.out]; exact ord_map l qp0 o (by rw [← HNL.out]; exact HPM.out)
                have HWF := hid (show wx j = M.filter (fun q => decide (q.s < 0)) from by rw [HWXE.out, hM])
                rw [← hM] at HM
                rw [HWF.out] at HW
                have HMP := hid hMp
                have HML := hid (show M.length = j from by rw [hMp.length_eq, HNL.out])
                have hB5z := hb5s
                obtain ⟨A16, c16, hv16, hR16, hc16⟩ := (HR5.out.below HB.out (fun k hk => (HR5.out.lt k hk).2)).form
                obtain ⟨rn, hrn⟩ : ∃ rn, rn = (rawL s P n).length := ⟨_, rfl⟩
                rw [u8s_len, ← hrn] at hv16 hR16 hc16
                have HRN := hid hrn
                subst hv16
                have HR16 := hid hR16
                have HRB := hid (show ∀ a, A16 = some a → a.block < w5.heap.size from fun a ha => (HR5.out.lt a.block (by rw [ha]; rfl)).2)
                have HBW := hid (HB5.out.trans (HB.out.mono HB5.out.size))
                have HR0O := hid ((On.rd (S := Al) HR0.out (fun _ _ _ => trivial)).bl)
                clear hM hMp hrn hR16 hlt
                go_upto_if 129 with fail
                go_cut [15] from 129 to 138 (fun wv wx_ => Hid (OwnL FP 4 (Bel w5.heap.size) wx_ w5.heap.size 29 u22 M) ∧ Hid (OwnL FP 4 Al wx_ w5.heap.size 29 wv (wantL M n s (rawL s P n))) ∧ Hid (Below w1.heap.size w1 wx_))
                case first =>
                  have HWM := hid (HW.out.mono (T := Al) (fun _ _ => trivial))
                  by_cases hn0' : n = 0
                  · have HWW := hid (show OwnL FP 4 Al wr w5.heap.size 29 u15 (wantL M n s (rawL s P n)) from by unfold wantL; rw [if_pos hn0', List.append_nil]; exact HWM.out)
                    subst hn0'
                    have hz : ¬ (0 : Int) < ((0 : Nat) : Int) := by omega
                    go_wp2_with fail
                    go_meet
                    case rel => exact ⟨HM, HWW, HBW⟩
                  · have hz : (0 : Int) < (n : Int) := by omega
                    have HNE := hid hn0'
                    clear hn0'
                    have hbs5 := HB.out.size
                    have hB15 : w1.heap.size ≤ w5.heap.size := HB5.out.size
                    have cvA := rd_str (c := c0) (HR0O.out.below HBW.out).here
                    obtain ⟨st, hst⟩ : ∃ st, st = strOf s := ⟨_, rfl⟩
                    rw [← hst] at cvA
                    have hsl : n0 = s.length := by have := HR0.out.1; rw [u8s_len] at this; exact this.symm
                    have HSL := hid hsl
                    obtain ⟨wA, hwA⟩ : ∃ wA, wA = wr.alloc (.cells #[.slice A0 n0 c0] 22) := ⟨_, rfl⟩
                    obtain ⟨X, hX⟩ : ∃ X : List Value, X = [.string st, .slice A16 rn c16, .slice (some ⟨wr.heap.size, 0, none⟩) 1 1, .int .i64 (-1)] := ⟨_, rfl⟩
                    have hAs : wA.heap.size = wr.heap.size + 1 := by rw [hwA, World.size_alloc]
                    have HCN := hid (show ∀ j u, X[j]? = some u → (wA.alloc (.cells X.toArray 29)).cell? ((⟨wr.heap.size + 1, 0, none⟩ : Addr).add j) = some u from by
                      have := cell_new wA X.toArray 29 (wr.heap.size + 1) hAs.symm
                      simpa using this)
                    have hO0 : On (offS Al u15) wA (fun W => Rd W A0 n0 (u8s s)) := by
                      rw [hwA]
                      exact ((HR0O.out.below HBW.out).mono (T := offS Al u15) (fun g _ h2 => ⟨trivial, fun e => by have := (HW.out.lt _ e).1; unfold Bel at h2; omega⟩)).alloc _
                    have HQF := hid (show On (offS Al u15) (wA.alloc (.cells X.toArray 29)) (fun W => FP W X ⟨s, rawL s P n, [s], -1⟩) from by
                      rw [hX, hst]
                      refine On.alloc ?_ _
                      refine fpOn (q := ⟨s, rawL s P n, [s], -1⟩) HRN.out hc16 (by rw [hwA]; exact (On.rd HR16.out (fun _ a ha => ⟨trivial, fun e => by have h1 := HRB.out a ha; have h2 := (HW.out.lt _ e).1; omega⟩)).alloc _) rfl ?_
                      exact segOn1 (by rw [hwA]; exact Arr.of_new _ _ _) hO0 hsl hc0 ⟨trivial, fun e => by have := (HW.out.lt _ e).2; omega⟩)
                    have hWl : (M.filter (fun q => decide (q.s < 0))).length ≤ 20 := by have := List.length_filter_le (fun q : QP => decide (q.s < 0)) M; rw [HML.out] at this; omega
                    have HOWa := hid (show OwnL FP 4 Al (wA.alloc (.cells X.toArray 29)) w5.heap.size 29 u15 (M.filter (fun q => decide (q.s < 0))) from by rw [hwA]; exact (HWM.out.alloc _).alloc _)
                    have q1 := hid (show (M.filter (fun q => decide (q.s < 0))).length + 1 ≤ maxLen from by simp only [maxLen]; omega)
                    have q2 := hid (show ((M.filter (fun q => decide (q.s < 0))).length + 1) * 72 ≤ 140737488355328 from by omega)
                    have q3 := hid (show w5.heap.size ≤ (wA.alloc (.cells X.toArray 29)).heap.size from by rw [World.size_alloc, hAs]; omega)
                    have q4 := hid (show ∀ u ∈ X, u.oneCell' = true from by rw [hX]; simp [Value.oneCell'])
                    have HMa := hid (show OwnL FP 4 (Bel w5.heap.size) (wA.alloc (.cells X.toArray 29)) w5.heap.size 29 u22 M from by rw [hwA]; exact (HM.out.alloc _).alloc _)
                    have HBa := hid (show Below w1.heap.size w1 (wA.alloc (.cells X.toArray 29)) from by rw [hwA]; exact (HBW.out.alloc HBW.out.size _).alloc (by rw [World.size_alloc]; omega) _)
                    rw [hX, hwA] at HCN HQF HOWa q3 HMa HBa
                    rw [hX] at q4
                    clear hst hsl hwA hX hAs hO0 hWl
                    go_wp2_with ((at_builtin; refine wpList_appK (F := FP) (S := Al) _ rfl _ _ 25 rfl w5.heap.size 29 i29 _ 4 72 Try.underlying25 yi yz0 yz1 yz2 rfl (by omega) _ (M.filter (fun q => decide (q.s < 0))) rfl ?_ ⟨wr.heap.size + 1, 0, none⟩ 1 [.string st, .slice A16 rn c16, .slice (some ⟨wr.heap.size, 0, none⟩) 1 1, .int .i64 (-1)] ⟨s, rawL s P n, [s], -1⟩ rfl rfl HCN.out q4.out ?_ q1.out q2.out q3.out ?_))
                    · exact HOWa.out
                    · exact HQF.out
                    intro v9 w9 hO9 hg9 ho9
                    have HWW := hid (show OwnL FP 4 Al w9 w5.heap.size 29 v9 (wantL M n s (rawL s P n)) from by unfold wantL; rw [if_neg HNE.out]; exact hO9)
                    have HM9 := hid (show OwnL FP 4 (Bel w5.heap.size) w9 w5.heap.size 29 u22 M from HMa.out.grown hg9 HAP.out.symm.ne (fun k hk h2 => by have := (HW.out.lt k hk).1; unfold Bel at h2; omega))
                    have HB9 := hid (show Below w1.heap.size w1 w9 from HBa.out.grown hg9 (Nat.le_trans hB15 q3.out) (fun k hk => Nat.le_trans hB15 (HW.out.lt k hk).1))
                    clear hO9 hg9 ho9
                    go_wp2_with fail
                    go_meet
                    case rel => exact ⟨HM9, HWW, HB9⟩
                case rest =>
                  obtain ⟨HMr, HWr, HBr⟩ := hcut
                  have hPM : M.Perm (partsL s P n n ++ othL L L.length) := by rw [HL3.out, ← HLN.out]; exact HMP.out
                  have hsl : s.length ≤ 2147483647 := by have := HR0.out.1; rw [u8s_len] at this; omega
                  obtain ⟨hmt, hmr, hmg, hraw, hraw8, hmq⟩ := m_facts s P n L M HPL.out hn16 hsl HS8.out HLS.out (fun x hx => (HL8.out x hx).1) hPM
                  have HWQ := hid (want_ok s P n M hmq hsl HS8.out hraw hraw8)
                  have HPM2 := hid hPM
                  obtain ⟨Am, cm, hvm, hcm⟩ := HMr.out.form
                  rw [HML.out] at hvm hcm
                  subst hvm
                  have HRM := HMr.out.rdl (T := Al) HML.out.symm (fun _ _ => trivial) (fun _ _ => trivial)
                  have jq := joinedQ M Am j cm wc HRM (by omega) hmt hmr hmg (fun q hq => (hmq q hq).t8) (fun q hq => (hmq q hq).r1) (fun q hq => ⟨(hmq q hq).g1, (hmq q hq).gl⟩) (fun q hq => (hmq q hq).sn)
                  have HMR := hid (show ((M.map cv).flatMap (·.r)).length ≤ 17179869184 ∧ ((M.map cv).flatMap segF).length ≤ 17179869184 ∧ ∀ x ∈ M.map cv, ∀ Lg, x.g = some Lg → Lg.length ≤ 17179869184 ∧ ∀ y ∈ Lg, y.length ≤ 17179869184 from by
                    refine ⟨?_, ?_, ?_⟩
                    · rw [(flatMap_cv M).2.1]; exact hmr
                    · rw [(flatMap_cv M).2.2]; exact hmg
                    · intro x hx Lg he
                      obtain ⟨q, hq, rfl⟩ := List.mem_map.1 hx
                      have h1 := hmq q hq
                      unfold cv at he
                      simp only at he
                      split at he
                      · cases he
                      · rw [← Option.some.inj he]; exact ⟨h1.g1, h1.gl⟩)
                  clear hPM hsl hmt hmr hmg hraw hraw8 hmq HRM HM HW HB hbs5 HAP
                  unfold JoinOut at jq
                  have hlw := HWr.out.form
                  obtain ⟨Aw, cw, hvw, hcw⟩ := hlw
                  obtain ⟨wl, hwl⟩ : ∃ wl, wl = (wantL M n s (rawL s P n)).length := ⟨_, rfl⟩
                  rw [← hwl] at hvw hcw
                  have HWL := hid hwl
                  subst hvw
                  have HRW := hid (HWr.out.rdl (T := Al) hwl (fun _ _ => trivial) (fun _ _ => trivial))
                  clear hwl
                  go_wp2_with fail
                  refine jq.mono ?_
                  rintro e w7 ⟨Ag, ng, cg, out, rfl, hng, hn64, hJ, hsn, hOg, hb7⟩
                  have HLP := hid (law_parts s P n L M out HPL.out HPM2.out hJ)
                  have hgw : ng = wl := by rw [hng, HLP.out.1, HWL.out]
                  have HSM := hid HLP.out.2
                  have HOGL := hid hng
                  subst hgw
                  have HJF := hid (joined_facts hJ HMR.out.1 HMR.out.2.1 HMR.out.2.2 (by decide))
                  have HRG := hid hOg
                  have HRW7 := hid (HRW.out.below hb7)
                  have HB7 := hid (show Below w1.heap.size w1 w7 from HBr.out.trans (hb7.mono HBr.out.size))
                  clear jq hng hJ hsn hOg hb7 HLP HRW HBr HMr HWr HMR
                  go_wp2_with fail
                  go_loopw [148] (fun iv wr => ∃ (k : Nat), k ≤ ng ∧ iv = .int .i64 (k : Nat) ∧ Hid (Below w7.heap.size w7 wr)) (fun iv _ => ng - (intOf iv).toNat)
                  case atStart => exact ⟨0, by omega, rfl, hid (Below.refl _ _)⟩
                  case round =>
                    obtain ⟨k, hk, rfl, HK⟩ := hrel
                    by_cases hlt : k < ng
                    · have hlt' : (k : Int) < (ng : Int) := by omega
                      obtain ⟨b1, o1, R1, d1, G1, m1, hA1, hb1, hl1, f0, f1, f2, f3, hr1, hO1⟩ := partOn HRG.out k hlt
                      obtain ⟨b2, o2, R2, d2, G2, m2, hA2, hb2, hl2, g0, g1, g2, g3, hr2, hO2⟩ := partOn HRW7.out k hlt
                      subst hA1
                      subst hA2
                      obtain ⟨x, hx⟩ : ∃ x, out[k]? = some x := ⟨_, List.getElem?_eq_getElem (by rw [← HOGL.out]; exact hlt)⟩
                      obtain ⟨q, hq⟩ : ∃ q, (wantL M n s (rawL s P n))[k]? = some q := ⟨_, List.getElem?_eq_getElem (by rw [← HWL.out]; exact hlt)⟩
                      have e1 : (out.map bk).getD k qp0 = bk x := by rw [List.getD, List.getElem?_map, hx]; rfl
                      have e2 : (wantL M n s (rawL s P n)).getD k qp0 = q := by rw [List.getD, hq]; rfl
                      rw [e1] at f0 f1 f2 f3 hr1 hO1
                      rw [e2] at g0 g1 g2 g3 hr2 hO2
                      have sm := HSM.out k x q hx hq
                      have jf := HJF.out.2 x (List.mem_of_getElem? hx)
                      have wf := HWQ.out q (List.mem_of_getElem? hq)
                      have gl : (bk x).g.length ≤ 17179869184 := by
                        show (x.g.getD []).length ≤ _
                        cases hg : x.g with
                        | none => simp
                        | some Lg => exact (jf.2.2 Lg hg).1
                      have PQ := hid (fun W (hb : Below w7.heap.size w7 W) => rqPartQ (bk x) q _ _ W ⟨R1, d1, G1, m1, rfl, hO1.below hb⟩ ⟨R2, d2, G2, m2, rfl, hO2.below hb⟩ sm (by rw [sm.2.1]; exact wf.1) (by rw [sm.2.2.2]; exact wf.2.1) (by rw [sm.2.1]; exact wf.2.2.1) (by rw [sm.2.2.2]; exact wf.2.2.2.1) gl wf.2.2.2.2)
                      have HKD := hid (show Below w7.heap.size w7 wr.drew from HK.out.trans (⟨rfl, rfl, rfl, Nat.le_refl _, fun _ _ => rfl⟩ : Below _ wr wr.drew))
                      have t0 := (HKD.out.cell (p := ⟨b1, o1 + k * 4, none⟩) hb1).trans f0
                      have t1 := (HKD.out.cell (p := ⟨b1, o1 + k * 4 + 1, none⟩) hb1).trans f1
                      have t2 := (HKD.out.cell (p := ⟨b1, o1 + k * 4 + 2, none⟩) hb1).trans f2
                      have t3 := (HKD.out.cell (p := ⟨b1, o1 + k * 4 + 3, none⟩) hb1).trans f3
                      have t4 := (HKD.out.cell (p := ⟨b2, o2 + k * 4, none⟩) hb2).trans g0
                      have t5 := (HKD.out.cell (p := ⟨b2, o2 + k * 4 + 1, none⟩) hb2).trans g1
                      have t6 := (HKD.out.cell (p := ⟨b2, o2 + k * 4 + 2, none⟩) hb2).trans g2
                      have t7 := (HKD.out.cell (p := ⟨b2, o2 + k * 4 + 3, none⟩) hb2).trans g3
                      clear f0 f1 f2 f3 g0 g1 g2 g3 e1 e2 sm jf wf gl hl1 hl2 hx hq hO1 hO2
                      generalize strOf (bk x).t = st1 at *
                      generalize (bk x).r.length = rl1 at *
                      generalize (bk x).g.length = gl1 at *
                      generalize (bk x).s = sx1 at *
                      generalize strOf q.t = st2 at *
                      generalize q.r.length = rl2 at *
                      generalize q.g.length = gl2 at *
                      generalize q.s = sx2 at *
                      have hk0 : (0 : Int) ≤ (k : Int) := by omega
                      go_wp2_with fail
                      refine wp_region_still_tail 8 (by kernel_rfl) (by kernel_rfl) ?_
                      change wpStill _ _ wr.drew (fun a' => wpList _ _ _ _ a' wr.drew) _ _
                      generalize wr.drew = w8 at *
                      simp only [List.take_succ_cons, List.take_zero, List.drop_succ_cons, List.drop_zero]
                      iterate 8 still_step
                      rw [wpStill]
                      show wpList _ _ _ _ _ _
                      go_wp2_with fail
                      refine (PQ.out _ HKD.out).mono ?_
                      rintro e w9 ⟨rfl, hb9⟩
                      have HK9 := hid (show Below w7.heap.size w7 w9 from HKD.out.trans (hb9.mono HKD.out.size))
                      clear hb9
                      go_wp2_with fail
                      go_roundw
                      case rel => first | exact ⟨k + 1, by omega, by go_num, HK9⟩ | ((repeat apply Exists.intro); exact ⟨⟨k + 1, by omega, rfl, HK9⟩, rfl⟩)
                      case measure => first | (simp [intOf]; done) | (simp [intOf]; omega)
                    · obtain rfl : k = ng := by omega
                      have hlt' : ¬ (k : Int) < (k : Int) := by omega
                      have HBF := hid (show Below w1.heap.size w1 wr from HB7.out.trans (HK.out.mono HB7.out.size))
                      go_wp2_with fail
                      go_ret
                      exact ⟨rfl, HBF.out⟩
theorem u8s_of (zs : List Int) (h : ∀ z ∈ zs, (Lit.int .u8 z).wf = true) : ∃ l : List Nat, zs.map (Value.int .u8) = u8s l ∧ ∀ x ∈ l, x < 256 := by
  refine ⟨zs.map Int.toNat, ?_, ?_⟩
  · unfold u8s
    rw [List.map_map]
    apply List.map_congr_left
    intro z hz
    have := wf_u8 (h z hz)
    show Value.int .u8 z = Value.int .u8 ((z.toNat : Nat) : Int)
    rw [Int.toNat_of_nonneg this.1]
  · intro x hx
    obtain ⟨z, hz, rfl⟩ := List.mem_map.1 hx
    have := wf_u8 (h z hz)
    omega
theorem FnRQJoins_walk (w : World) (A0 : Option Addr) (n0 c0 : Nat) (z0 : List Int) (w0 : SlIn w A0 n0 c0 (z0.map (Value.int .u8))) (wf0 : ∀ n ∈ z0, (Lit.int .u8 n).wf = true)
    (A1 : Option Addr) (n1 c1 : Nat) (z1 : List Int) (w1 : SlIn w A1 n1 c1 (z1.map (Value.int .u8))) (wf1 : ∀ n ∈ z1, (Lit.int .u8 n).wf = true)
    (a2 : Int) (w2 : (Lit.int .u8 a2).wf = true) (A3 : Option Addr) (n3 c3 : Nat) (L : List (List Nat)) (hR3 : RdL FB 1 w A3 n3 L) (m3 : n3 ≤ maxLen) (f3 : ∀ y ∈ L, (∀ c ∈ y, c < 256) ∧ y.length ≤ maxLen)
    (A4 : Option Addr) (n4 c4 : Nat) (z4 : List Int) (w4 : SlIn w A4 n4 c4 (z4.map (Value.int .u8))) (wf4 : ∀ n ∈ z4, (Lit.int .u8 n).wf = true) (a5 : Bool) :
    Calls Try.prog 3 #[.slice A0 n0 c0, .slice A1 n1 c1, .int .u8 a2, .slice A3 n3 c3, .slice A4 n4 c4, .bool a5] w fun e w' => e = .returned (.bool true) ∧ Below w.heap.size w w' := by
  obtain ⟨l0, e0, b0⟩ := u8s_of z0 wf0
  obtain ⟨l1, e1, b1⟩ := u8s_of z1 wf1
  obtain ⟨l4, e4, b4⟩ := u8s_of z4 wf4
  rw [e0] at w0
  rw [e1] at w1
  rw [e4] at w4
  have b2 := wf_u8 w2
  obtain ⟨many, rfl⟩ : ∃ z : Nat, a2 = z := ⟨a2.toNat, by omega⟩
  exact joins_core w l0 l1 l4 L A0 A1 A3 A4 n0 c0 n1 c1 n3 c3 n4 c4 many a5 w0.rd w0.2.1 w0.2.2.1 b0 w1.rd (Nat.le_trans w1.2.1 w1.2.2.1) b1 hR3 (by simp only [maxLen] at m3; omega) (fun y hy => ⟨(f3 y hy).1, by have := (f3 y hy).2; simp only [maxLen] at this; omega⟩) w4.rd (Nat.le_trans w4.2.1 w4.2.2.1) b4 (by omega)
end Go.Proofs.Ytpffffhgmhpkiaa
