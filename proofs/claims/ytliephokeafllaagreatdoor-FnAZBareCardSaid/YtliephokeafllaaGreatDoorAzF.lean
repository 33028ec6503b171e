/- spec.AZWidth, AZBits, AZSide, AZField, azLayers, AZStuff. -/
import Derived.Test.YtliephokeafllaaGreatDoorAzD
import Derived.Test.YtliephokeafllaaGreatDoorAzS
namespace Go.Proofs.YtliephokeafllaaGreatDoor
open Go.RowKit
set_option linter.unusedVariables false
set_option linter.unusedSimpArgs false

/-- How many bits a word has. -/
def azW (L : Nat) : Nat := if L ≤ 2 then 6 else if L ≤ 8 then 8 else if L ≤ 22 then 10 else 12
theorem azW_cases (L : Nat) : azW L = 6 ∨ azW L = 8 ∨ azW L = 10 ∨ azW L = 12 := by
  unfold azW
  split
  · omega
  split
  · omega
  split <;> omega
theorem azWidthM (L : Nat) (w : World) : Calls Tryz.prog 7 #[.int .i64 (L : Nat)] w (fun e w' => e = .returned (.int .i64 (azW L : Nat)) ∧ w = w') := by
  unfold azW
  by_cases h1 : L ≤ 2
  · have h1' : (L : Int) ≤ 2 := by omega
    go_enter Tryz.func7, Tryz.ntmps7
    go_wp2_with fail
    go_ret
    exact ⟨by simp [h1], rfl⟩
  by_cases h2 : L ≤ 8
  · have h1' : ¬ (L : Int) ≤ 2 := by omega
    have h2' : (L : Int) ≤ 8 := by omega
    go_enter Tryz.func7, Tryz.ntmps7
    go_wp2_with fail
    go_ret
    exact ⟨by simp [h1, h2], rfl⟩
  by_cases h3 : L ≤ 22
  · have h1' : ¬ (L : Int) ≤ 2 := by omega
    have h2' : ¬ (L : Int) ≤ 8 := by omega
    have h3' : (L : Int) ≤ 22 := by omega
    go_enter Tryz.func7, Tryz.ntmps7
    go_wp2_with fail
    go_ret
    exact ⟨by simp [h1, h2, h3], rfl⟩
  · have h1' : ¬ (L : Int) ≤ 2 := by omega
    have h2' : ¬ (L : Int) ≤ 8 := by omega
    have h3' : ¬ (L : Int) ≤ 22 := by omega
    go_enter Tryz.func7, Tryz.ntmps7
    go_wp2_with fail
    go_ret
    exact ⟨by simp [h1, h2, h3], rfl⟩
theorem azBitsM (c : Bool) (L : Nat) (hL : L ≤ 32) (w : World) : Calls Tryz.prog 15 #[.bool c, .int .i64 (L : Nat)] w (fun e w' => e = .returned (.int .i64 (azBitsN c L : Nat)) ∧ w = w') := by
  have h1 : (88 + 16 * L) * L ≤ (88 + 16 * 32) * 32 := Nat.mul_le_mul (by omega) hL
  have h2 : (112 + 16 * L) * L ≤ (112 + 16 * 32) * 32 := Nat.mul_le_mul (by omega) hL
  have e1 : (88 + 16 * (L : Int)) * (L : Int) = (((88 + 16 * L) * L : Nat) : Int) := by simp
  have e2 : (112 + 16 * (L : Int)) * (L : Int) = (((112 + 16 * L) * L : Nat) : Int) := by simp
  unfold azBitsN
  generalize (88 + 16 * L) * L = x at *
  generalize (112 + 16 * L) * L = y at *
  have b1 : (88 + 16 * (L : Int)) * (L : Int) ≤ 20000 := by omega
  have b2 : (112 + 16 * (L : Int)) * (L : Int) ≤ 20000 := by omega
  have b3 : 0 ≤ (88 + 16 * (L : Int)) * (L : Int) := by omega
  have b4 : 0 ≤ (112 + 16 * (L : Int)) * (L : Int) := by omega
  have E1 := hid e1
  have E2 := hid e2
  clear e1 e2
  cases c
  · go_enter Tryz.func15, Tryz.ntmps15
    go_wp2_with fail
    go_ret
    exact ⟨by rw [E2.out]; rfl, rfl⟩
  · go_enter Tryz.func15, Tryz.ntmps15
    go_wp2_with fail
    go_ret
    exact ⟨by rw [E1.out]; rfl, rfl⟩
theorem azSideM (c : Bool) (L : Nat) (hL : L ≤ 32) (w : World) : Calls Tryz.prog 28 #[.bool c, .int .i64 (L : Nat)] w (fun e w' => e = .returned (.int .i64 (azSide c L : Nat)) ∧ w = w') := by
  cases c
  · go_enter Tryz.func28, Tryz.ntmps28
    go_wp2_with fail
    go_ret
    exact ⟨by simp [azSide], rfl⟩
  · go_enter Tryz.func28, Tryz.ntmps28
    go_wp2_with fail
    go_ret
    exact ⟨by simp [azSide], rfl⟩
/-- The layers by a number. -/
def azLay (c : Bool) (n : Nat) : Nat := if c then 1 + n % 4 else 1 + n % 32
theorem azLayersM (c : Bool) (n : Nat) (hn : n < 256) (w : World) : Calls Tryz.prog 4 #[.bool c, .int .u8 (n : Nat)] w (fun e w' => e = .returned (.int .i64 (azLay c n : Nat)) ∧ w = w') := by
  cases c
  · go_enter Tryz.func4, Tryz.ntmps4
    go_wp2_with fail
    go_ret
    exact ⟨by simp [azLay], rfl⟩
  · go_enter Tryz.func4, Tryz.ntmps4
    go_wp2_with fail
    go_ret
    exact ⟨by simp [azLay], rfl⟩
theorem info3 : (Tryz.prog.info? 3).map (fun i => (i.zero, i.size, i.bytes)) = some (some (.int .i64 0), 1, 8) := by kernel_rfl
theorem ints_snoc (l : List Nat) (n : Nat) : ints (l ++ [n]) = ints l ++ [.int .i64 (n : Nat)] := by simp [ints]
theorem ints_one (n : Nat) : ∀ u ∈ [Value.int .i64 (n : Nat)], u.oneCell' = true := by intro u hu; rw [List.mem_singleton.1 hu]; rfl
/-- Words of bits, in new memory. -/
def StuffOut (b : List Bool) (wd : Nat) (w : World) (e : Ending) (w' : World) : Prop :=
  ∃ t v, e = .returned v ∧ Stuffed b wd t ∧ t ≤ b.length ∧ Own w' w.heap.size 3 v (ints (stuffTo b wd t).1) ∧ Below w.heap.size w w'

set_option maxRecDepth 20000 in
set_option maxHeartbeats 8000000 in
theorem stuffM (w : World) (b : List Bool) (A : Option Addr) (c wd : Nat) (hR : Rd w A b.length (b.map Value.bool)) (hlen : b.length ≤ 1000000) (hw2 : 2 ≤ wd) (hw12 : wd ≤ 12) :
    Calls Tryz.prog 11 #[.slice A b.length c, .int .i64 (wd : Nat)] w (StuffOut b wd w) := by
  obtain ⟨N, hN⟩ : ∃ N, N = b.length := ⟨_, rfl⟩
  have HN := hid hN
  rw [← hN] at hR hlen ⊢
  clear hN
  obtain ⟨i3, hi3, hb0, hb1, hb2⟩ := info_of info3
  have HR := hid hR
  clear hR
  go_enter Tryz.func11, Tryz.ntmps11
  go_wp2_with fail
  go_loopw [5, 6] (fun ov iv wr => ∃ (t p : Nat), p ≤ N + wd ∧ t ≤ p ∧ iv = .int .i64 (p : Nat) ∧ Hid (p = (stuffTo b wd t).2) ∧ Hid (∀ s, s < t → (stuffTo b wd s).2 < b.length) ∧ Hid (Own wr w.heap.size 3 ov (ints (stuffTo b wd t).1)) ∧ Hid (Below w.heap.size w wr)) (fun _ iv _ => N - (intOf iv).toNat)
  case atStart => exact ⟨0, 0, by omega, by omega, rfl, hid rfl, hid (fun s h => by omega), hid (Own.nil _ _ _), hid (Below.refl _ _)⟩
  case round =>
    obtain ⟨t, p, hp, htp, rfl, HP, HT, HO, HB⟩ := hrel
    by_cases hlt : p < N
    case neg =>
      have hlt' : ¬ (p : Int) < (N : Int) := by omega
      have hO := HO.out
      obtain ⟨A9, c9, hv9, _, _⟩ := hO.form
      subst hv9
      go_wp2_with fail
      go_ret
      refine ⟨t, _, rfl, ⟨by rw [← HP.out, ← HN.out]; omega, HT.out⟩, ?_, HO.out, HB.out⟩
      rcases Nat.eq_zero_or_pos t with h0 | h0
      · omega
      · have h1 := HT.out (t - 1) (by omega)
        have h2 := (stuffTo_pos b (w := wd) (t - 1)).1
        have h3 : (t - 1) * 1 ≤ (t - 1) * (wd - 1) := Nat.mul_le_mul_left _ (by omega)
        omega
    case pos =>
      have hlt' : (p : Int) < (N : Int) := by omega
      obtain ⟨gb, go, rfl, hgb, hcell⟩ := HR.out.2 (by omega)
      have HC := hid (show ∀ k, k < N → wr.cell? ⟨gb, go + k, none⟩ = some (.bool (b.getD k true)) from fun k hk => by
        have hk' : k < b.length := by rw [← HN.out]; exact hk
        rw [World.cell?_of_block (w := w) (HB.out.block gb hgb), hcell k (by rw [List.length_map]; exact hk'), List.getElem_map, List.getD, List.getElem?_eq_getElem hk']
        rfl)
      clear hcell
      obtain ⟨wo, rfl⟩ : ∃ wo : World, wo = wr := ⟨_, rfl⟩
      obtain ⟨Q, hQ⟩ : ∃ Q, Q = wd - 1 := ⟨_, rfl⟩
      have hQ1 : Q ≤ 11 := by omega
      have hQ2 : (wd : Int) - 1 = (Q : Nat) := by omega
      go_wp2_with fail
      go_loop [6, 7, 8] (fun iv xv mv => ∃ k : Nat, k ≤ Q ∧ iv = .int .i64 ((p + k : Nat) : Int) ∧ xv = .int .i64 (hiAt b p k : Nat) ∧ mv = .int .i64 (k : Nat)) (fun _ _ mv => Q - (intOf mv).toNat)
      case atStart => exact ⟨0, by omega, rfl, rfl, rfl⟩
      case round =>
        obtain ⟨k, hk, rfl, rfl, rfl⟩ := hrel
        have hh := hiAt_lt b p k
        have hpow : 2 ^ k ≤ 2 ^ 11 := Nat.pow_le_pow_right (by decide) (by omega)
        have hh2 : hiAt b p k < 2048 := by omega
        have HNX := hid (show hiAt b p (k + 1) = 2 * hiAt b p k + (if b.getD (p + k) true then 1 else 0) from rfl)
        clear hh hpow
        have hpk : ((p + k : Nat) : Int) = (p : Int) + (k : Int) := by omega
        by_cases hkQ : k < Q
        case pos =>
          have hkQ' : (k : Int) < (Q : Int) := by omega
          obtain ⟨x, hx⟩ : ∃ x, x = hiAt b p k := ⟨_, rfl⟩
          rw [← hx] at HNX hh2 ⊢
          obtain ⟨pk, hpk⟩ : ∃ pk, pk = p + k := ⟨_, rfl⟩
          have HPK := hid hpk
          rw [← hpk] at HNX ⊢
          have hpkb : pk ≤ 2000000 := by omega
          clear hx hpk
          rcases Nat.lt_or_ge pk N with hin | hout
          · have ck := HC.out pk hin
            have hin' : ¬ (N : Int) ≤ (pk : Int) := by omega
            generalize hbv : b.getD pk true = bv at *
            cases bv
            · have HNX2 := hid (show hiAt b p (k + 1) = x * 2 by have := HNX.out; simp at this; omega)
              clear HNX hbv
              go_wp2_with fail
              go_round
              case rel => exact ⟨k + 1, by omega, by have := HPK.out; go_num, by rw [HNX2.out]; go_num, by go_num⟩
              case measure => simp [intOf]; omega
            · have HNX2 := hid (show hiAt b p (k + 1) = x * 2 + 1 by have := HNX.out; simp at this; omega)
              clear HNX hbv
              go_wp2_with fail
              go_round
              case rel => exact ⟨k + 1, by omega, by have := HPK.out; go_num, by rw [HNX2.out]; go_num, by go_num⟩
              case measure => simp [intOf]; omega
          · have hout' : (N : Int) ≤ (pk : Int) := by omega
            have HNX2 := hid (show hiAt b p (k + 1) = x * 2 + 1 by
              have := HNX.out
              have e : b.getD pk true = true := by rw [List.getD, List.getElem?_eq_none (by rw [← HN.out]; exact hout)]; rfl
              rw [e] at this; simp at this; omega)
            clear HNX
            go_wp2_with fail
            go_round
            case rel => exact ⟨k + 1, by omega, by have := HPK.out; go_num, by rw [HNX2.out]; go_num, by go_num⟩
            case measure => simp [intOf]; omega
        case neg =>
          obtain rfl : k = Q := by omega
          have hkQ' : ¬ (k : Int) < (k : Int) := by omega
          have HD := hid (show (stuffTo b wd (t + 1)).1 = (stuffTo b wd t).1 ++ [stuffW b wd p] ∧ (stuffTo b wd (t + 1)).2 = stuffI b wd p by rw [HP.out]; exact ⟨rfl, rfl⟩)
          have hT2 : ∀ s, s < t + 1 → (stuffTo b wd s).2 < b.length := fun s hs => by
            rcases Nat.lt_or_ge s t with h | h
            · exact HT.out s h
            · rw [show s = t by omega, ← HP.out, ← HN.out]; exact hlt
          have HT2 := hid hT2
          have hW : stuffW b wd p = if hiAt b p k = 0 then 1 else if hiAt b p k = 2 ^ k - 1 then 2 * hiAt b p k else 2 * hiAt b p k + (if b.getD (p + k) true then 1 else 0) := by unfold stuffW; rw [← hQ]
          have hI : stuffI b wd p = if hiAt b p k = 0 then p + k else if hiAt b p k = 2 ^ k - 1 then p + k else p + k + 1 := by unfold stuffI; rw [← hQ]
          have hlen : (ints (stuffTo b wd t).1).length = t := by rw [ints_len, stuffTo_len]
          have hpow : 2 ^ k ≤ 2 ^ 11 := Nat.pow_le_pow_right (by decide) (by omega)
          have hpow0 : 0 < 2 ^ k := Nat.two_pow_pos k
          have hk0 : 1 ≤ k := by omega
          clear hT2 HT HP HNX hk hkQ hQ hw2 hw12
          generalize (stuffTo b wd t).1 = ws at *
          generalize hiAt b p k = H at *
          have hbs := HB.out.size
          by_cases h0 : H = 0
          case pos =>
            subst h0
            rw [if_pos rfl] at hW hI
            have HW := hid hW
            have HI := hid hI
            clear hW hI hpow hpow0
            go_wp2_with (at_builtin; refine wpList_app _ rfl _ _ 25 rfl w.heap.size 3 i3 _ 8 Tryz.underlying25 hi3 hb0 hb1 hb2 rfl _ (ints ws) rfl (HO.out.alloc _) _ 1 1 [.int .i64 1] rfl (Rd.one' _ _ _ _ rfl) (ints_one 1) (by rw [hlen]; unfold maxLen; omega) (by rw [hlen]; omega) (by simp; omega) ?_)
            intro v1 w3 hO hg hown
            have HO3 := hid (show Own w3 w.heap.size 3 v1 (ints (stuffTo b wd (t + 1)).1) from by rw [HD.out.1, HW.out, ints_snoc]; exact hO)
            have HB3 := hid (below_app (HB.out.alloc hbs (.cells #[.int .i64 (1)] 3)) (HO.out.alloc _) hg (Nat.le_refl _) (by simp; omega))
            clear hO hg hown HO HB
            go_wp2_with fail
            go_roundw
            case rel => exact ⟨t + 1, p + k, by omega, by omega, by go_num, hid (by rw [HD.out.2, HI.out]), HT2, HO3, HB3⟩
            case measure => simp [intOf]; omega
          case neg =>
          have h0' : ((H : Int) == 0) = false := by simp; omega
          rw [if_neg h0] at hW hI
          obtain ⟨G, hG⟩ : ∃ G, G = 2 ^ k - 1 := ⟨_, rfl⟩
          have eg : wrap64 (wrap64 ((2 : Int) ^ k) - 1) = ((G : Nat) : Int) := by
            have e : ((2 : Int) ^ k) = ((2 ^ k : Nat) : Int) := by simp
            rw [e]
            generalize 2 ^ k = P at *
            have h11 : P ≤ 2048 := hpow
            rw [IntWalk.wrap64_in (P : Int) ⟨by omega, by omega⟩, IntWalk.wrap64_in _ ⟨by omega, by omega⟩]
            omega
          rw [← hG] at hW hI
          clear hG hpow hpow0
          by_cases h1 : H = G
          case pos =>
            rw [if_pos h1] at hW hI
            have H2W := hid (show ((2 * H : Nat) : Int) = 2 * (H : Int) by omega)
            have HW := hid hW
            have HI := hid hI
            have h1' : ((H : Int) == (G : Int)) = true := by simp; omega
            clear hW hI h1
            go_wp2_with (at_builtin; refine wpList_app _ rfl _ _ 25 rfl w.heap.size 3 i3 _ 8 Tryz.underlying25 hi3 hb0 hb1 hb2 rfl _ (ints ws) rfl (HO.out.alloc _) _ 1 1 [.int .i64 (2 * (H : Int))] rfl (Rd.one' _ _ _ _ rfl) (by intro u hu; rw [List.mem_singleton.1 hu]; rfl) (by rw [hlen]; unfold maxLen; omega) (by rw [hlen]; omega) (by simp; omega) ?_)
            intro v1 w3 hO hg hown
            rw [← H2W.out] at hO hg
            have HO3 := hid (show Own w3 w.heap.size 3 v1 (ints (stuffTo b wd (t + 1)).1) from by rw [HD.out.1, HW.out, ints_snoc]; exact hO)
            have HB3 := hid (below_app (HB.out.alloc hbs (.cells #[.int .i64 ((2 * H : Nat) : Int)] 3)) (HO.out.alloc _) hg (Nat.le_refl _) (by simp; omega))
            clear hO hg hown HO HB
            go_wp2_with fail
            go_roundw
            case rel => exact ⟨t + 1, p + k, by omega, by omega, by go_num, hid (by rw [HD.out.2, HI.out]), HT2, HO3, HB3⟩
            case measure => simp [intOf]; omega
          case neg =>
          rw [if_neg h1] at hW hI
          have h1' : ((H : Int) == (G : Int)) = false := by simp; omega
          obtain ⟨pk, hpk⟩ : ∃ pk, pk = p + k := ⟨_, rfl⟩
          have hpk' : (p : Int) + (k : Int) = (pk : Nat) := by omega
          have HPK := hid hpk
          rw [← hpk] at hW hI
          have hpkb : pk ≤ 2000000 := by omega
          have hpk2 : t + 1 ≤ pk := by omega
          have hpk3 : p < pk := by omega
          have HI := hid hI
          clear hpk hI h1
          rcases Nat.lt_or_ge pk N with hin | hout
          · have ck := HC.out pk hin
            have hin' : ¬ (N : Int) ≤ (pk : Int) := by omega
            generalize hbv : b.getD pk true = bv at *
            cases bv
            · have H2W := hid (show ((2 * H : Nat) : Int) = 2 * (H : Int) by omega)
              have HW := hid (show stuffW b wd p = 2 * H by rw [hW]; simp)
              clear hW hbv
              go_wp2_with (at_builtin; refine wpList_app _ rfl _ _ 25 rfl w.heap.size 3 i3 _ 8 Tryz.underlying25 hi3 hb0 hb1 hb2 rfl _ (ints ws) rfl (HO.out.alloc _) _ 1 1 [.int .i64 (2 * (H : Int))] rfl (Rd.one' _ _ _ _ rfl) (by intro u hu; rw [List.mem_singleton.1 hu]; rfl) (by rw [hlen]; unfold maxLen; omega) (by rw [hlen]; omega) (by simp; omega) ?_)
              intro v1 w3 hO hg hown
              rw [← H2W.out] at hO hg
              have HO3 := hid (show Own w3 w.heap.size 3 v1 (ints (stuffTo b wd (t + 1)).1) from by rw [HD.out.1, HW.out, ints_snoc]; exact hO)
              have HB3 := hid (below_app (HB.out.alloc hbs (.cells #[.int .i64 ((2 * H : Nat) : Int)] 3)) (HO.out.alloc _) hg (Nat.le_refl _) (by simp; omega))
              clear hO hg hown HO HB
              go_wp2_with fail
              go_roundw
              case rel => exact ⟨t + 1, pk + 1, by omega, by omega, by go_num, hid (by rw [HD.out.2, HI.out]), HT2, HO3, HB3⟩
              case measure => simp [intOf]; omega
            · have H2W := hid (show ((2 * H + 1 : Nat) : Int) = 2 * (H : Int) + 1 by omega)
              have HW := hid (show stuffW b wd p = 2 * H + 1 by rw [hW]; simp)
              clear hW hbv
              go_wp2_with (at_builtin; refine wpList_app _ rfl _ _ 25 rfl w.heap.size 3 i3 _ 8 Tryz.underlying25 hi3 hb0 hb1 hb2 rfl _ (ints ws) rfl (HO.out.alloc _) _ 1 1 [.int .i64 (2 * (H : Int) + 1)] rfl (Rd.one' _ _ _ _ rfl) (by intro u hu; rw [List.mem_singleton.1 hu]; rfl) (by rw [hlen]; unfold maxLen; omega) (by rw [hlen]; omega) (by simp; omega) ?_)
              intro v1 w3 hO hg hown
              rw [← H2W.out] at hO hg
              have HO3 := hid (show Own w3 w.heap.size 3 v1 (ints (stuffTo b wd (t + 1)).1) from by rw [HD.out.1, HW.out, ints_snoc]; exact hO)
              have HB3 := hid (below_app (HB.out.alloc hbs (.cells #[.int .i64 ((2 * H + 1 : Nat) : Int)] 3)) (HO.out.alloc _) hg (Nat.le_refl _) (by simp; omega))
              clear hO hg hown HO HB
              go_wp2_with fail
              go_roundw
              case rel => exact ⟨t + 1, pk + 1, by omega, by omega, by go_num, hid (by rw [HD.out.2, HI.out]), HT2, HO3, HB3⟩
              case measure => simp [intOf]; omega
          · have hout' : (N : Int) ≤ (pk : Int) := by omega
            have hbv : b.getD pk true = true := by rw [List.getD, List.getElem?_eq_none (by rw [← HN.out]; exact hout)]; rfl
            rw [hbv] at hW
            have H2W := hid (show ((2 * H + 1 : Nat) : Int) = 2 * (H : Int) + 1 by omega)
            have HW := hid (show stuffW b wd p = 2 * H + 1 by rw [hW]; simp)
            clear hW hbv
            go_wp2_with (at_builtin; refine wpList_app _ rfl _ _ 25 rfl w.heap.size 3 i3 _ 8 Tryz.underlying25 hi3 hb0 hb1 hb2 rfl _ (ints ws) rfl (HO.out.alloc _) _ 1 1 [.int .i64 (2 * (H : Int) + 1)] rfl (Rd.one' _ _ _ _ rfl) (by intro u hu; rw [List.mem_singleton.1 hu]; rfl) (by rw [hlen]; unfold maxLen; omega) (by rw [hlen]; omega) (by simp; omega) ?_)
            intro v1 w3 hO hg hown
            rw [← H2W.out] at hO hg
            have HO3 := hid (show Own w3 w.heap.size 3 v1 (ints (stuffTo b wd (t + 1)).1) from by rw [HD.out.1, HW.out, ints_snoc]; exact hO)
            have HB3 := hid (below_app (HB.out.alloc hbs (.cells #[.int .i64 ((2 * H + 1 : Nat) : Int)] 3)) (HO.out.alloc _) hg (Nat.le_refl _) (by simp; omega))
            clear hO hg hown HO HB
            go_wp2_with fail
            go_roundw
            case rel => exact ⟨t + 1, pk + 1, by omega, by omega, by go_num, hid (by rw [HD.out.2, HI.out]), HT2, HO3, HB3⟩
            case measure => simp [intOf]; omega
end Go.Proofs.YtliephokeafllaaGreatDoor
