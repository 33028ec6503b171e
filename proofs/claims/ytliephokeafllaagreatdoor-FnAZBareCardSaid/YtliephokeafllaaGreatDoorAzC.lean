/- azWriter.width, azWriter.say. -/
import Derived.Test.YtliephokeafllaaGreatDoorAzB
import Derived.Test.YtliephokeafllaaGreatDoorAzR
import Derived.Deep.DrawnRows
namespace Go.Proofs.YtliephokeafllaaGreatDoor
open Go.RowKit
set_option linter.unusedVariables false
set_option linter.unusedSimpArgs false

theorem widthM (w : World) (q B : Nat) (v : Value) (s : AzSt) (hA : IsAz w q B v s) :
    Calls Tryz.prog 23 #[.pointer (some ⟨q, 0, none⟩)] w (fun e w' => e = .returned (.int .i64 (azWidth s.mode : Nat)) ∧ w = w') := by
  have c2 := hA.cells.cell 2 (by simp)
  simp only [List.getElem_cons_zero, List.getElem_cons_succ] at c2
  go_enter Tryz.func23, Tryz.ntmps23
  by_cases h : s.mode = 4
  · have h4 : ((s.mode : Nat) : Int) = 4 := by omega
    rw [h4] at c2
    go_wp2_with fail
    go_ret
    exact ⟨by simp [azWidth, h], rfl⟩
  · have h4 : ¬ ((s.mode : Nat) : Int) = 4 := by omega
    go_wp2_with fail
    go_ret
    exact ⟨by simp [azWidth, h], rfl⟩

theorem say_nz : (List.range 5).all (fun m => (List.range (azTab m).length).all fun r => decide ((azTab m).getD (seek (azTab m) (azTab m).length r) [] ≠ [])) = true := by decide +kernel
theorem say_ne (m n : Nat) (hm : m ≤ 4) : (azTab m).getD (sayAt m n) [] ≠ [] := by
  have h1 := List.all_eq_true.1 say_nz m (List.mem_range.2 (by omega))
  have h2 := List.all_eq_true.1 h1 (n % (azTab m).length) (List.mem_range.2 (Nat.mod_lt _ (by rw [tab_len hm]; exact Nat.two_pow_pos _)))
  exact of_decide_eq_true h2

theorem tab_sz : (List.range 5).all (fun m => (List.range 32).all fun k => decide (((azTab m).getD k []).length ≤ 2)) = true := by decide +kernel
theorem tab_str (m k : Nat) (hm : m ≤ 4) : ((azTab m).getD k []).length ≤ 2 := by
  rcases Nat.lt_or_ge k 32 with hk | hk
  · have h1 := List.all_eq_true.1 tab_sz m (List.mem_range.2 (by omega))
    exact of_decide_eq_true (List.all_eq_true.1 h1 k (List.mem_range.2 hk))
  · have : (azTab m).length ≤ 32 := by rw [tab_len hm]; unfold azWidth; split <;> decide
    rw [List.getD, List.getElem?_eq_none (by omega)]
    exact Nat.zero_le _
theorem strOf_ie (x : Nat) (l : List Nat) : (strOf (x :: l)).toList.isEmpty = false := by
  unfold strOf
  rw [ByteArray.toList_mk]
  rfl
/-- The place and the text, stored. -/
theorem IsAz.said {w : World} {q B : Nat} {v : Value} {s : AzSt} (h : IsAz w q B v s) (t : List Nat) :
    IsAz (w.setCell ⟨q, 1, none⟩ (.string (strOf (s.text ++ t)))) q B v ⟨s.bits, s.text ++ t, s.mode⟩ ∧ Below B w (w.setCell ⟨q, 1, none⟩ (.string (strOf (s.text ++ t)))) ∧ Fr q v w v (w.setCell ⟨q, 1, none⟩ (.string (strOf (s.text ++ t)))) := by
  refine ⟨⟨h.cells.set 1 _, h.own.far (p := ⟨q, 1, none⟩) h.apart _, h.apart, h.le⟩, (Below.refl B w).setCell h.le _, by simp, fun g h1 h2 h3 => ⟨Below.heap_setCell w _ _ g h2, h3⟩⟩

set_option maxRecDepth 20000 in
set_option maxHeartbeats 4000000 in
theorem sayM (w : World) (q B : Nat) (v : Value) (s : AzSt) (mode n many : Nat) (hmode : mode ≤ 4) (hm : many ≤ 16) (hn : n < 4096) (hA : IsAz w q B v s) (hl : s.bits.length ≤ 1000000) (hst : s.text.length ≤ 1000000) :
    Calls Tryz.prog 24 #[.pointer (some ⟨q, 0, none⟩), .int .i64 (mode : Nat), .int .i64 (n : Nat), .int .i64 (many : Nat)] w (AzOut q B v (s.say mode n many) w) := by
  have HT := hid (azTable mode hmode w)
  obtain ⟨L, hL⟩ : ∃ L, L = azTab mode := ⟨_, rfl⟩
  have hLl : L.length = 2 ^ azWidth mode := by rw [hL]; exact tab_len hmode
  have hL16 : 16 ≤ L.length ∧ L.length ≤ 32 := by
    rw [hLl]; unfold azWidth; split <;> decide
  obtain ⟨K, hK⟩ : ∃ K, K = sayAt mode n := ⟨_, rfl⟩
  have hKne : L.getD K [] ≠ [] := by rw [hL, hK]; exact say_ne mode n hmode
  have HL := hid hL
  have HK := hid hK
  have HKN := hid hKne
  obtain ⟨N, hN⟩ : ∃ N, N = L.length := ⟨_, rfl⟩
  rw [← hN] at hL16
  have HN := hid hN
  rw [← hL] at HT
  clear hL hK hKne hLl hN
  go_enter Tryz.func24, Tryz.ntmps24
  go_wp2_with fail
  refine HT.out.mono ?_
  rintro e w1 ⟨A, c, rfl, hR, hb1, hfr⟩
  rw [← HN.out] at hR ⊢
  have hlt : n % N < N := Nat.mod_lt _ (by omega)
  have hLz : ¬ (N : Int) = 0 := by omega
  obtain ⟨gb, go, rfl, hgb, hcell⟩ := hR.2 (by omega)
  have hgw := hfr _ rfl
  simp only at hgw
  have HR := hid hR
  have hq1 := hb1.size
  have hBq := hA.le
  have hq := hA.cells.lt
  have HA1 := hid (show IsAz w1 q B v s from ⟨hA.cells.below hb1 (by omega), hA.own.below hb1 (fun k hk => (hA.own.lt k hk).2), hA.apart, hA.le⟩)
  have HB1 := hid (hb1.mono (B' := B) (by omega))
  have HF1 := hid (show Fr q v w v w1 from ⟨hb1.size, fun g h1 h2 h3 => ⟨hb1.block g h1, h3⟩⟩)
  have HVB := hid (show v.ownBlock ≠ some gb from fun h => by have := (hA.own.lt gb h).2; omega)
  have hmod : (n : Int) % (N : Int) = ((n % N : Nat) : Int) := by omega
  have hsl : (strs L).length = N := (strs_len L).trans HN.out.symm
  have HC := hid (show ∀ k, k < N → w1.cell? ⟨gb, go + k, none⟩ = some (.string (strOf (L.getD k []))) from fun k hk => by
    rw [hcell k (by omega)]
    simp only [strs, List.getElem_map]
    rw [List.getD, List.getElem?_eq_getElem (by rw [← HN.out]; exact hk)]
    rfl)
  have HS0 := hid (show seek L N (n % N) = K by rw [HK.out, HN.out, HL.out]; rfl)
  clear hcell hR hb1 hfr hsl
  go_wp2_with fail
  go_loopg [9] N (fun gk kv wr => ∃ k : Nat, k < N ∧ kv = .int .i64 (k : Nat) ∧ Hid (seek L gk k = K) ∧ wr = w1)
  case atStart => exact ⟨n % N, hlt, by rw [hmod], HS0, rfl⟩
  case round =>
    obtain ⟨k, hk, rfl, HS, rfl⟩ := hrel
    have ck := HC.out k hk
    have hki : (k : Int) < (N : Int) := by omega
    by_cases he : L.getD k [] = []
    · have hst : strOf (L.getD k []) = ⟨#[]⟩ := by rw [he]; rfl
      rw [hst] at ck
      have HE := hid he
      have hmod2 : ((k : Int) + 1) % (N : Int) = (((k + 1) % N : Nat) : Int) := by rw [Int.natCast_emod]; rfl
      have hkl : (k + 1) % N < N := Nat.mod_lt _ (by omega)
      rcases gk with _ | g
      · exfalso
        have := HS.out
        rw [seek] at this
        rw [this] at he
        exact HKN.out he
      · have HS2 := hid (show seek L g ((k + 1) % N) = K by have := HS.out; rw [seek, if_pos he, ← HN.out] at this; exact this)
        clear he hst HS HC HKN
        go_wp2_with fail
        go_roundg g
        case measure => omega
        case rel => exact ⟨(k + 1) % N, hkl, by rw [hmod2], HS2, rfl⟩
    · obtain rfl : k = K := by
        have := HS.out
        rcases gk with _ | g
        · rw [seek] at this; exact this
        · rw [seek, if_neg he] at this; exact this
      have hst : ∃ x l, L.getD k [] = x :: l := by
        cases hx : L.getD k [] with
        | nil => exact absurd hx he
        | cons x l => exact ⟨x, l, rfl⟩
      obtain ⟨x, l, hxl⟩ := hst
      rw [hxl] at ck
      have hne := strOf_ie x l
      obtain ⟨st, hst⟩ : ∃ st, st = strOf (x :: l) := ⟨_, rfl⟩
      rw [← hst] at ck hne
      have HST := hid hst
      have HXL := hid hxl
      have hk32 : k < 4096 := by omega
      have hput := hid (putM wr q B v s k many hm hk32 HA1.out hl)
      clear he HS HC HKN hst hxl
      go_wp2_with fail
      refine hput.out.mono ?_
      rintro e w2 ⟨rfl, v2, hA2, hB2, hF2⟩
      have ck2 : w2.cell? ⟨gb, go + k, none⟩ = some (.string st) := (World.cell?_of_block (w := wr) (hF2.2 gb hgb (by omega) HVB.out).1).trans ck
      have c1 := hA2.cells.cell 1 (by simp)
      simp only [List.getElem_cons_zero, List.getElem_cons_succ, AzSt.put] at c1
      have fz := hA2.cells.frozen 1
      have HS := hid (show _ from (show IsAz w2.drew q B v2 (s.put k many) from ⟨hA2.cells, hA2.own, hA2.apart, hA2.le⟩).said (x :: l))
      have HSA := hid (strOf_app s.text (x :: l))
      rw [← HST.out] at HSA
      have HB2 := hid (HB1.out.trans hB2)
      have HF2 := hid (HF1.out.trans hF2)
      clear hA2 hB2 hF2 hput HA1 HB1 HF1
      have z1 : (strOf s.text).size ≤ 1000000 := by rw [strOf_size]; exact hst
      have z2 : st.size ≤ 2 := by
        rw [HST.out, strOf_size, ← HXL.out, HL.out]
        exact tab_str mode k hmode
      have z3 : ¬ 9223372036854775807 < (strOf s.text).size + st.size := by omega
      generalize strOf s.text = st1 at *
      clear hmod hlt HN HS0 HR hne hgb hst
      go_wp2_with fail
      go_region
      go_end0
      have h1 := HS.out
      have h2 := HSA.out
      rw [h2]
      have h3 : (azTab mode).getD (sayAt mode n) [] = x :: l := by rw [← HL.out, ← HK.out]; exact HXL.out
      refine ⟨rfl, v2, ?_, HB2.out.drew.trans h1.2.1, HF2.out.trans h1.2.2⟩
      have h4 := h1.1
      unfold AzSt.say
      rw [h3, ← HK.out]
      exact h4
end Go.Proofs.YtliephokeafllaaGreatDoor
