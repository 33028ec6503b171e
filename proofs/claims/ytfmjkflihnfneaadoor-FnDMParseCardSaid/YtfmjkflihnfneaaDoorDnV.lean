/- The reader's segment in the mode EDIFACT. -/
import Derived.Test.YtfmjkflihnfneaaDoorDnQ
namespace Go.Proofs.YtfmjkflihnfneaaDoor
open Go.RowKit
set_option linter.unusedVariables false
set_option linter.unusedSimpArgs false

theorem and_32_fin : ((List.range 64).all fun v => decide (v &&& 32 = if v < 32 then 0 else 32)) = true := by decide +kernel
theorem and_32 (v : Nat) (h : v < 64) : bits .and .i64 (v : Int) 32 = ((if v < 32 then 0 else 32 : Nat) : Int) := by
  have := of_decide_eq_true (List.all_eq_true.1 and_32_fin v (List.mem_range.2 h))
  rw [show (32 : Int) = ((32 : Nat) : Int) from rfl, i64_and _ _ (by omega) (by omega), this]
theorem or_64_fin : ((List.range 32).all fun v => decide (v ||| 64 = v + 64)) = true := by decide +kernel
theorem or_64 (v : Nat) (h : v < 32) : bits .or .i64 (v : Int) 64 = ((v + 64 : Nat) : Int) := by
  have := of_decide_eq_true (List.all_eq_true.1 or_64_fin v (List.mem_range.2 h))
  rw [show (64 : Int) = ((64 : Nat) : Int) from rfl, i64_or _ _ (by omega) (by omega), this]
theorem ediL_snoc (W : List Nat) (p s : Nat) : ediL W p (s + 1) = ediL W p s ++ [ediC (rdn W (8 * p + 6 * s) 6)] := by
  unfold ediL
  rw [List.range_succ, List.map_append]; rfl
theorem read6M (q : Nat) (A : Option Addr) (n c p : Nat) (l : List Nat) (w : World) (h : Src w q A n c p) (hn : n ≤ 4000) (hR : Rd w A n (u8s l)) (hb : ∀ j, l.getD j 0 < 256) (hq : ∀ a, A = some a → a.block ≠ q) (hp : p + 6 ≤ 8 * n) :
    Calls Tryd.prog 47 #[.pointer (some ⟨q, 0, none⟩), .int .i64 6] w (fun e w' => e = .returned (.tuple #[.int .i64 (rdn l p 6 : Nat), .nilIface]) ∧ Src w' q A n c (p + 6) ∧ w.grownBy w' (some q)) :=
  readM q A n c p l 6 w h hn hR hb hq (by omega) (by omega) hp
/-- What the EDIFACT segment's reader leaves. -/
def SegOut1 (W : List Nat) (A : Option Addr) (c q B p' : Nat) (o' : List Nat) (v : Value) (w : World) (e : Ending) (w' : World) : Prop :=
  ∃ v', e = .returned v' ∧ Src w' q A W.length c (8 * p') ∧ Own w' B 5 v' (u8s o') ∧ Kp B q w w' ∧ Fr q v w v' w'

set_option maxRecDepth 20000 in
set_option maxHeartbeats 8000000 in
theorem segE (W : List Nat) (A : Option Addr) (c q B p qe n : Nat) (v : Value) (o : List Nat) (w : World) (hC : Rdr W A c q B w) (hS : Src w q A W.length c (8 * p)) (hO : Own w B 5 v (u8s o))
    (hqe : qe = p + (6 * (n + 1) + 7) / 8) (hq3 : qe + 3 ≤ W.length) (hne : ∀ i, i < n → rdn W (8 * p + 6 * i) 6 ≠ 31) (h31 : rdn W (8 * p + 6 * n) 6 = 31) (hol : o.length ≤ 90000) :
    Calls Tryd.prog 38 #[.pointer (some ⟨q, 0, none⟩), v] w (SegOut1 W A c q B qe (o ++ ediL W p n) v w) := by
  obtain ⟨i5, gi, gz0, gz1, gz2⟩ := info_of info5
  obtain ⟨N, hN⟩ : ∃ N, N = W.length := ⟨_, rfl⟩
  rw [← hN] at hS hq3
  have HN := hid hN
  have hNl : N ≤ 4000 := by rw [hN]; exact hC.n
  have hqb := hC.qb
  have hbw := hC.bs
  have HC := hid hC
  have HS := hid (show Src w q A N c (8 * p + 6 * 0) from hS)
  have HO := hid (show Own w B 5 v (u8s (o ++ ediL W p 0)) from by rw [show ediL W p 0 = [] from rfl, List.append_nil]; exact hO)
  have HNE := hid hne
  have H31 := hid h31
  have HQE := hid hqe
  have hpn : p + (6 * (n + 1) + 7) / 8 + 3 ≤ N := by omega
  clear hN hC hS hO hne h31 hqe
  go_enter Tryd.func38, Tryd.ntmps38
  go_wp2_with fail
  go_loopg [1] (n + 1) (fun gk ov wr => ∃ (s : Nat), s ≤ n ∧ gk = n + 1 - s ∧ s % 4 = 0 ∧ Hid (Src wr q A N c (8 * p + 6 * s)) ∧ Hid (Own wr B 5 ov (u8s (o ++ ediL W p s))) ∧ Hid (Kp B q w wr) ∧ Hid (Fr q v w ov wr))
  case atStart => exact ⟨0, by omega, by omega, by omega, HS, HO, hid (Kp.refl _ _ _), hid (Fr.refl _ _ _)⟩
  case round =>
    clear HS HO
    obtain ⟨s, hs1, rfl, hs4, HS, HO, HK, HF⟩ := hrel
    have hbr := Nat.le_trans hbw HK.out.size
    have HAV := hid (fun V (hS : Src V q A N c (8 * p + 6 * s)) => available q A N c (8 * p + 6 * s) V hS (by omega) (by omega))
    obtain ⟨D, hD⟩ : ∃ D, D = 8 * N - (8 * p + 6 * s) := ⟨_, rfl⟩
    have hD8 : (16 : Int) < (D : Int) := by omega
    rw [← hD] at HAV
    clear hD
    go_wp2_with (first | (go_at_call 33; ((with_reducible refine (HAV.out _ (HS.out.drewN _)).mono ?_); rintro e w1 ⟨rfl, k1, rfl⟩)) | (go_at_call 33; ((with_reducible refine (HAV.out _ HS.out).mono ?_); rintro e w1 ⟨rfl, k1, rfl⟩)))
    have HS := hid (HS.out.drewN 0)
    go_loopg [1, 5] 4 (fun gk ov iv wr => ∃ (i : Nat), i ≤ 4 ∧ gk = 4 - i ∧ iv = .int .i64 (i : Nat) ∧ s + i ≤ n ∧ Hid (Src wr q A N c (8 * p + 6 * (s + i))) ∧ Hid (Own wr B 5 ov (u8s (o ++ ediL W p (s + i)))) ∧ Hid (Kp B q w wr) ∧ Hid (Fr q v w ov wr))
    case atStart => exact ⟨0, by omega, by omega, rfl, by omega, HS, hid (HO.out.drewN _), hid (HK.out.drewN _), hid (HF.out.drewN _)⟩
    case round =>
      clear HS HO HK HF hbr HAV hD8
      obtain ⟨i, hi4, rfl, rfl, hsi, HS, HO, HK, HF⟩ := hrel
      have hbr := Nat.le_trans hbw HK.out.size
      by_cases hlt : i < 4
      case neg =>
        obtain rfl : i = 4 := by omega
        go_wp2_with fail
        go_roundg (n + 1 - (s + 4))
        case measure => omega
        case rel => exact ⟨s + 4, by omega, rfl, by omega, HS, HO, HK, HF⟩
      case pos =>
        have hlt' : (i : Int) < 4 := by omega
        have HCr := hid (HC.out.kp HK.out)
        have HRD := hid (show Rd wr A N (u8s W) from by rw [HN.out]; exact HCr.out.rd)
        have HR := hid (read6M q A N c (8 * p + 6 * (s + i)) W wr HS.out hNl HRD.out HC.out.lt (fun a ha => (HC.out.ab a ha).2) (by omega))
        have hvl := rdn_lt W (8 * p + 6 * (s + i)) 6
        have HX2 := hid (show o ++ ediL W p (s + (i + 1)) = o ++ ediL W p (s + i) ++ [ediC (rdn W (8 * p + 6 * (s + i)) 6)] from by rw [← Nat.add_assoc, ediL_snoc, List.append_assoc])
        have hXl : (o ++ ediL W p (s + i)).length ≤ 98000 := by rw [List.length_append, ediL, List.length_map, List.length_range]; omega
        have HZ := hid (show s + i < n → rdn W (8 * p + 6 * (s + i)) 6 ≠ 31 from HNE.out (s + i))
        have HZ2 := hid (show s + i = n → rdn W (8 * p + 6 * (s + i)) 6 = 31 from fun e => by rw [e]; exact H31.out)
        generalize rdn W (8 * p + 6 * (s + i)) 6 = z at *
        by_cases hn : s + i = n
        case pos =>
          obtain rfl : z = 31 := HZ2.out hn
          obtain ⟨P, hP⟩ : ∃ P, P = 8 * p + 6 * (s + i) + 6 := ⟨_, rfl⟩
          rw [← hP] at HR
          have HBO := hid (fun V (h : Src V q A N c P) => bitOff q A N c P V h)
          obtain ⟨r, hr⟩ : ∃ r, r = P % 8 := ⟨_, rfl⟩
          rw [← hr] at HBO
          obtain ⟨mm, hmm⟩ : ∃ mm, mm = 8 - r := ⟨_, rfl⟩
          have em : (8 : Int) - (r : Int) = (mm : Nat) := by omega
          have hqe9 := HQE.out
          have HRD2 := hid (fun V (hg : wr.grownBy V (some q)) => show Rd V A N (u8s W) from HRD.out.grown hg (fun a ha e => (HC.out.ab a ha).2 (by injection e)))
          have HFX := hid (show o ++ ediL W p (s + i) = o ++ ediL W p n from by rw [hn])
          by_cases h8 : mm = 8
          case pos =>
            have hm8 : ((mm : Int) == 8) = true := by simp; omega
            have hPq : P = 8 * qe := by omega
            have HPQ := hid hPq
            clear hP hr hmm hqe9 hn hPq hsi h8 HZ HZ2
            go_wp2_with (first | (go_at_call 47; ((with_reducible refine HR.out.mono ?_); rintro e w9 ⟨rfl, hS9, hg9⟩)) | (go_at_call 56; ((with_reducible refine (HBO.out _ hS9).mono ?_); rintro e w8 ⟨rfl, rfl⟩)))
            go_ret
            refine ⟨_, rfl, ?_, ?_, ?_⟩
            · rw [← HN.out, ← HPQ.out]; exact hS9
            · rw [← HFX.out]; exact HO.out.src hg9 hqb
            · exact ⟨HK.out.src hbr hg9, HF.out.srcG hg9⟩
          case neg =>
            have hm8 : ((mm : Int) == 8) = false := by simp; omega
            have hPq : P + mm = 8 * qe := by omega
            have HPQ := hid hPq
            have HR2 := hid (fun V (hS : Src V q A N c P) (hg : wr.grownBy V (some q)) => readM q A N c P W mm V hS hNl (HRD2.out V hg) HC.out.lt (fun a ha => (HC.out.ab a ha).2) (by omega) (by omega) (by omega))
            clear hP hr hmm hqe9 hn hPq hsi h8 HZ HZ2
            go_wp2_with (first | (go_at_call 47; ((with_reducible refine HR.out.mono ?_); rintro e w9 ⟨rfl, hS9, hg9⟩)) | (go_at_call 56; ((with_reducible refine (HBO.out _ hS9).mono ?_); rintro e w8 ⟨rfl, rfl⟩)) | (go_at_call 47; ((with_reducible refine (HR2.out _ hS9 hg9).mono ?_); rintro e w8 ⟨rfl, hS8, hg8⟩)))
            go_ret
            refine ⟨_, rfl, ?_, ?_, ?_⟩
            · rw [← HN.out, ← HPQ.out]; exact hS8
            · rw [← HFX.out]; exact (HO.out.src hg9 hqb).src hg8 hqb
            · exact ⟨(HK.out.src hbr hg9).src (Nat.le_trans hbr hg9.size) hg8, (HF.out.srcG hg9).srcG hg8⟩
        case neg =>
          have hz31 : z ≠ 31 := HZ.out (by omega)
          have hz31' : ((z : Int) == 31) = false := by simp; omega
          obtain ⟨X, hX⟩ : ∃ X, X = o ++ ediL W p (s + i) := ⟨_, rfl⟩
          rw [← hX] at HX2 HO hXl
          obtain ⟨b, hb⟩ : ∃ b, b = ediC z := ⟨_, rfl⟩
          rw [← hb] at HX2
          have m1 := hid (show (u8s X).length + 1 ≤ maxLen by rw [u8s_len]; simp [maxLen]; omega)
          have m2 := hid (show ((u8s X).length + 1) * 1 ≤ 140737488355328 by rw [u8s_len]; omega)
          have ha := and_32 z hvl
          by_cases h32 : z < 32
          case pos =>
            rw [if_pos h32] at ha
            have ho := or_64 z h32
            have hb2 : b = z + 64 := by rw [hb, ediC, if_pos h32]
            rw [← hb2] at ho
            have e1 : IntKind.u8.wrap (b : Int) = (b : Nat) := by rw [u8wrap]; omega
            clear hX hb hb2 HZ HZ2 hz31
            go_wp2_with (first | (go_at_call 47; ((with_reducible refine HR.out.mono ?_); rintro e w9 ⟨rfl, hS9, hg9⟩; have HO9 := hid (HO.out.src hg9 hqb); have HK9 := hid (HK.out.src hbr hg9); have HF9 := hid (HF.out.srcG hg9); have HB9 := hid (Nat.le_trans hbr hg9.size))) | (at_builtin; refine wpList_app _ rfl _ _ 28 rfl B 5 i5 _ 1 Tryd.underlying28 gi gz0 gz1 gz2 rfl _ (u8s X) rfl (HO9.out.alloc _) _ 1 1 [.int .u8 (b : Nat)] rfl (Rd.one' _ _ _ _ (by first | rfl | (simp; done))) (by intro u hu; rw [List.mem_singleton.1 hu]; rfl) m1.out m2.out (Nat.le_trans HB9.out (by simp <;> omega)) ?_))
            intro v5 w5 hO5 hg5 hown5
            have HO5 := hid (show Own w5 B 5 v5 (u8s (o ++ ediL W p (s + (i + 1)))) from by rw [HX2.out]; unfold u8s at hO5 ⊢; rw [List.map_append]; exact hO5)
            have HK5 := hid ((HK9.out.alloc HB9.out _).own (Nat.le_trans HB9.out (by simp <;> omega)) hg5 (fun j hj => (HO9.out.lt j hj).1))
            have HS5 := hid (show Src w5 q A N c (8 * p + 6 * (s + (i + 1))) from by rw [show 8 * p + 6 * (s + (i + 1)) = 8 * p + 6 * (s + i) + 6 from by omega]; exact (hS9.alloc _).own hg5 (fun e => by have := (HO9.out.lt q e.symm).1; omega))
            have HF5 := hid ((HF9.out.alloc _).trans (Fr.app q hg5 (by simpa using hown5)))
            clear hO5 hg5 hown5 HO9 HK9 HF9 hS9 hg9 m1 m2
            go_wp2_with fail
            go_roundg (4 - (i + 1))
            case measure => omega
            case rel => exact ⟨i + 1, by omega, rfl, by go_num, by omega, HS5, HO5, HK5, HF5⟩
          case neg =>
            rw [if_neg h32] at ha
            have hb2 : b = z := by rw [hb, ediC, if_neg h32]
            have e1 : IntKind.u8.wrap (b : Int) = (b : Nat) := by rw [u8wrap]; omega
            subst hb2
            clear hX hb HZ HZ2 hz31
            go_wp2_with (first | (go_at_call 47; ((with_reducible refine HR.out.mono ?_); rintro e w9 ⟨rfl, hS9, hg9⟩; have HO9 := hid (HO.out.src hg9 hqb); have HK9 := hid (HK.out.src hbr hg9); have HF9 := hid (HF.out.srcG hg9); have HB9 := hid (Nat.le_trans hbr hg9.size))) | (at_builtin; refine wpList_app _ rfl _ _ 28 rfl B 5 i5 _ 1 Tryd.underlying28 gi gz0 gz1 gz2 rfl _ (u8s X) rfl (HO9.out.alloc _) _ 1 1 [.int .u8 (b : Nat)] rfl (Rd.one' _ _ _ _ (by first | rfl | (simp; done))) (by intro u hu; rw [List.mem_singleton.1 hu]; rfl) m1.out m2.out (Nat.le_trans HB9.out (by simp <;> omega)) ?_))
            intro v5 w5 hO5 hg5 hown5
            have HO5 := hid (show Own w5 B 5 v5 (u8s (o ++ ediL W p (s + (i + 1)))) from by rw [HX2.out]; unfold u8s at hO5 ⊢; rw [List.map_append]; exact hO5)
            have HK5 := hid ((HK9.out.alloc HB9.out _).own (Nat.le_trans HB9.out (by simp <;> omega)) hg5 (fun j hj => (HO9.out.lt j hj).1))
            have HS5 := hid (show Src w5 q A N c (8 * p + 6 * (s + (i + 1))) from by rw [show 8 * p + 6 * (s + (i + 1)) = 8 * p + 6 * (s + i) + 6 from by omega]; exact (hS9.alloc _).own hg5 (fun e => by have := (HO9.out.lt q e.symm).1; omega))
            have HF5 := hid ((HF9.out.alloc _).trans (Fr.app q hg5 (by simpa using hown5)))
            clear hO5 hg5 hown5 HO9 HK9 HF9 hS9 hg9 m1 m2
            go_wp2_with fail
            go_roundg (4 - (i + 1))
            case measure => omega
            case rel => exact ⟨i + 1, by omega, rfl, by go_num, by omega, HS5, HO5, HK5, HF5⟩
end Go.Proofs.YtfmjkflihnfneaaDoor
