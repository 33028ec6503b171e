/- The reader's segment in the mode ASCII. -/
import Derived.Test.YtfmjkflihnfneaaDoorDnQ
namespace Go.Proofs.YtfmjkflihnfneaaDoor
open Go.RowKit
set_option linter.unusedVariables false
set_option linter.unusedSimpArgs false

theorem says_len {W X : List Nat} {k p : Nat} {o : List Nat} (h : Says W X k p o) : o.length ≤ X.length := by
  induction h with
  | pad => exact Nat.le_refl _
  | ch _ _ _ _ _ _ _ ih => rw [List.length_append] at ih; omega
  | dig _ _ _ _ _ _ _ ih => rw [List.length_append] at ih; omega
  | latch _ _ _ _ _ _ ih => exact ih
  | thr _ _ _ _ _ _ _ _ _ ih => rw [List.length_append] at ih; omega
  | edi _ _ _ _ _ _ _ _ _ ih => rw [List.length_append] at ih; omega
  | b256 _ _ _ _ _ _ _ _ _ ih => rw [List.length_append] at ih; omega
theorem Says.inv1 {W X : List Nat} {p : Nat} {o : List Nat} (h : Says W X 1 p o) :
    (p < W.length ∧ W.getD p 0 = 129 ∧ o = X) ∨ (∃ c, p < W.length ∧ W.getD p 0 = c + 1 ∧ c ≤ 127 ∧ Says W X 1 (p + 1) (o ++ [c])) ∨
    (∃ d, p < W.length ∧ W.getD p 0 = 130 + d ∧ d ≤ 99 ∧ Says W X 1 (p + 1) (o ++ [48 + d / 10, 48 + d % 10])) ∨
    (∃ k, p < W.length ∧ (k = 2 ∧ W.getD p 0 = 230 ∨ k = 3 ∧ W.getD p 0 = 239 ∨ k = 4 ∧ W.getD p 0 = 238 ∨ k = 5 ∧ W.getD p 0 = 240 ∨ k = 6 ∧ W.getD p 0 = 231) ∧ Says W X k (p + 1) o) := by
  generalize hk : 1 = k at h
  cases h with
  | pad _ h1 h2 => exact .inl ⟨h1, h2, rfl⟩
  | ch _ c _ h1 h2 h3 h4 => exact .inr (.inl ⟨c, h1, h2, h3, h4⟩)
  | dig _ d _ h1 h2 h3 h4 => exact .inr (.inr (.inl ⟨d, h1, h2, h3, h4⟩))
  | latch _ k _ h1 h2 h3 => exact .inr (.inr (.inr ⟨k, h1, h2, h3⟩))
  | thr _ m q _ l h1 => omega
  | edi => omega
  | b256 => omega
theorem results_tmp4 {fn : Func} {t u v x : Tmp} (h : fn.results = #[.tmp t, .tmp u, .tmp v, .tmp x]) (tmps : Array Value) (P : Program) (w : World) :
    (results fn tmps).run P w = .ok (.tuple #[tmps.getD t undef, tmps.getD u undef, tmps.getD v undef, tmps.getD x undef]) w := by
  simp [results, h]
theorem Fr.belowG {q : Nat} {v v' : Value} {w w' w'' : World} (h : Fr q v w v' w') (hb : Below w'.heap.size w' w'') : Fr q v w v' w'' :=
  ⟨Nat.le_trans h.1 hb.size, fun g h1 h2 h3 => ⟨(hb.block g (Nat.lt_of_lt_of_le h1 h.1)).trans (h.2 g h1 h2 h3).1, (h.2 g h1 h2 h3).2⟩⟩
/-- What the ASCII segment's reader leaves. -/
def AsciiOut (W X : List Nat) (A : Option Addr) (c q B p : Nat) (v tr : Value) (w : World) (e : Ending) (w' : World) : Prop :=
  ∃ (k p' : Nat) (o' : List Nat) (v' : Value), e = .returned (.tuple #[.int .i64 (k : Nat), v', tr, .nilIface]) ∧ p < p' ∧ (k = 0 ∧ o' = X ∨ 1 ≤ k ∧ k ≤ 6 ∧ Says W X k p' o') ∧ Src w' q A W.length c (8 * p') ∧ Own w' B 5 v' (u8s o') ∧ Kp B q w w' ∧ Fr q v w v' w'

set_option maxRecDepth 20000 in
set_option maxHeartbeats 8000000 in
theorem segA (W X : List Nat) (A : Option Addr) (c q B p : Nat) (v tr mp : Value) (o : List Nat) (w : World) (hC : Rdr W A c q B w) (hS : Src w q A W.length c (8 * p)) (hO : Own w B 5 v (u8s o)) (hT : Says W X 1 p o) (hX : X.length ≤ 90000) :
    Calls Tryd.prog 34 #[.pointer (some ⟨q, 0, none⟩), v, tr, mp] w (AsciiOut W X A c q B p v tr w) := by
  obtain ⟨i5, gi, gz0, gz1, gz2⟩ := info_of info5
  obtain ⟨N, hN⟩ : ∃ N, N = W.length := ⟨_, rfl⟩
  rw [← hN] at hS
  have HN := hid hN
  have hNl : N ≤ 4000 := by rw [hN]; exact hC.n
  have hqb := hC.qb
  have hbw := hC.bs
  have HC := hid hC
  have HS := hid hS
  have HO := hid hO
  have HT := hid hT
  clear hN hC hS hO hT
  go_enter Tryd.func34, Tryd.ntmps34
  go_wp2_with fail
  go_loopg [1, 2, 12] (N - p) (fun gk ov tv us wr => ∃ (p2 : Nat) (o2 : List Nat), gk = N - p2 ∧ us = .bool false ∧ tr = tv ∧ p ≤ p2 ∧ Hid (Says W X 1 p2 o2) ∧ Hid (Src wr q A N c (8 * p2)) ∧ Hid (Own wr B 5 ov (u8s o2)) ∧ Hid (Kp B q w wr) ∧ Hid (Fr q v w ov wr))
  case atStart => exact ⟨p, o, rfl, rfl, rfl, Nat.le_refl _, HT, HS, HO, hid (Kp.refl _ _ _), hid (Fr.refl _ _ _)⟩
  case round =>
    clear HT HS HO
    obtain ⟨p2, o2, rfl, rfl, rfl, hpp, HT, HS, HO, HK, HF⟩ := hrel
    have hbr := Nat.le_trans hbw HK.out.size
    have HCr := hid (HC.out.kp HK.out)
    have HRD := hid (show Rd wr A N (u8s W) from by rw [HN.out]; exact HCr.out.rd)
    have hol2 : o2.length ≤ 90000 := Nat.le_trans (says_len HT.out) hX
    have HR := hid (fun V (hp : p2 < N) (hS : Src V q A N c (8 * p2)) (hR : Rd V A N (u8s W)) => read8M q A N c p2 W V hS hNl hR HC.out.lt (fun a ha => (HC.out.ab a ha).2) hp)
    rcases HT.out.inv1 with ⟨hpn, hw, hoX⟩ | ⟨ch, hpn, hw, hc, hT2⟩ | ⟨d, hpn, hw, hd, hT2⟩ | ⟨k, hpn, hw, hT2⟩
    case inl =>
      rw [← HN.out] at hpn
      have HAV := hid (available q A N c (8 * p2) wr HS.out (by omega) (by omega))
      obtain ⟨D, hD⟩ : ∃ D, D = 8 * N - 8 * p2 := ⟨_, rfl⟩
      have hD8 : (0 : Int) < (D : Int) := by omega
      rw [← hD] at HAV
      rw [hw] at HR
      have HOX := hid hoX
      have HPN := hid hpn
      clear hD hw hoX
      go_wp2_with (first | (go_at_call 33; ((with_reducible refine HAV.out.mono ?_); rintro e w1 ⟨rfl, k1, rfl⟩)) | (go_at_call 47; ((with_reducible refine (HR.out _ HPN.out (HS.out.drewN _) (HRD.out.drewN _)).mono ?_); rintro e w9 ⟨rfl, hS9, hg9⟩)))
      refine bodyPost_ret (results_tmp4 rfl _ _ _) rfl ?_
      exact ⟨0, p2 + 1, o2, _, rfl, by omega, .inl ⟨rfl, HOX.out⟩, by rw [← HN.out]; exact hS9, (HO.out.drewN _).src hg9 hqb, (HK.out.drewN _).src hbr hg9, (HF.out.drewN _).srcG hg9⟩
    case inr.inl =>
      rw [← HN.out] at hpn
      have HAV := hid (available q A N c (8 * p2) wr HS.out (by omega) (by omega))
      obtain ⟨D, hD⟩ : ∃ D, D = 8 * N - 8 * p2 := ⟨_, rfl⟩
      have hD8 : (0 : Int) < (D : Int) := by omega
      rw [← hD] at HAV
      have HPN := hid hpn
      obtain ⟨b, hb⟩ : ∃ b, b = ch + 1 := ⟨_, rfl⟩
      rw [hw, ← hb] at HR
      have e0 : ((b : Int) == 0) = false := by simp; omega
      have e1 : (b : Int) ≤ 128 := by omega
      have e2 : IntKind.u8.wrap ((b : Int) - 1) = (ch : Nat) := by rw [u8wrap]; omega
      have m1 := hid (show (u8s o2).length + 1 ≤ maxLen by rw [u8s_len]; simp [maxLen]; omega)
      have m2 := hid (show ((u8s o2).length + 1) * 1 ≤ 140737488355328 by rw [u8s_len]; omega)
      have HT2 := hid hT2
      clear hD hw hb hT2 HT
      go_wp2_with (first | (go_at_call 33; ((with_reducible refine HAV.out.mono ?_); rintro e w1 ⟨rfl, k1, rfl⟩)) | (go_at_call 47; ((with_reducible refine (HR.out _ HPN.out (HS.out.drewN _) (HRD.out.drewN _)).mono ?_); rintro e w9 ⟨rfl, hS9, hg9⟩; have HO9 := hid ((HO.out.drewN k1).src hg9 hqb); have HK9 := hid ((HK.out.drewN k1).src hbr hg9); have HF9 := hid ((HF.out.drewN k1).srcG hg9); have HS9 := hid hS9; have HB9 := hid (Nat.le_trans hbr hg9.size))) | (at_builtin; refine wpList_app _ rfl _ _ 28 rfl B 5 i5 _ 1 Tryd.underlying28 gi gz0 gz1 gz2 rfl _ (u8s o2) rfl (HO9.out.alloc _) _ 1 1 [.int .u8 ((ch : Nat))] rfl (Rd.one' _ _ _ _ (by first | rfl | (simp; done))) (by intro u hu; rw [List.mem_singleton.1 hu]; rfl) m1.out m2.out (Nat.le_trans HB9.out (by simp <;> omega)) ?_))
      intro v5 w5 hO5 hg5 hown5
      have HO5 := hid (show Own w5 B 5 v5 (u8s (o2 ++ [ch])) from by unfold u8s at hO5 ⊢; rw [List.map_append]; exact hO5)
      have HK5 := hid ((HK9.out.alloc HB9.out _).own (Nat.le_trans HB9.out (by simp <;> omega)) hg5 (fun j hj => (HO9.out.lt j hj).1))
      have HS5 := hid ((HS9.out.alloc _).own hg5 (fun e => by have := (HO9.out.lt q e.symm).1; omega))
      have HF5 := hid ((HF9.out.alloc _).trans (Fr.app q hg5 (by simpa using hown5)))
      clear hO5 hg5 hown5 HO9 HK9 HF9 HS9 hS9 hg9
      go_wp2_with fail
      refine bodyPost_ret (results_tmp4 rfl _ _ _) rfl ?_
      exact ⟨1, p2 + 1, o2 ++ [ch], v5, rfl, by omega, .inr ⟨by omega, by omega, HT2.out⟩, by rw [← HN.out]; exact HS5.out, HO5.out, HK5.out, HF5.out⟩
    case inr.inr.inr =>
      rw [← HN.out] at hpn
      have HAV := hid (available q A N c (8 * p2) wr HS.out (by omega) (by omega))
      obtain ⟨D, hD⟩ : ∃ D, D = 8 * N - 8 * p2 := ⟨_, rfl⟩
      have hD8 : (0 : Int) < (D : Int) := by omega
      rw [← hD] at HAV
      have HPN := hid hpn
      have HT2 := hid hT2
      clear hD hT2 HT
      rcases hw with ⟨rfl, hw⟩ | ⟨rfl, hw⟩ | ⟨rfl, hw⟩ | ⟨rfl, hw⟩ | ⟨rfl, hw⟩
      all_goals (
        rw [hw] at HR
        clear hw
        go_wp2_with (first | (go_at_call 33; ((with_reducible refine HAV.out.mono ?_); rintro e w1 ⟨rfl, k1, rfl⟩)) | (go_at_call 47; ((with_reducible refine (HR.out _ HPN.out (HS.out.drewN _) (HRD.out.drewN _)).mono ?_); rintro e w9 ⟨rfl, hS9, hg9⟩))))
      all_goals refine bodyPost_ret (results_tmp4 rfl _ _ _) rfl ?_
      all_goals first
        | exact ⟨2, p2 + 1, o2, _, rfl, by omega, .inr ⟨by omega, by omega, HT2.out⟩, by rw [← HN.out]; exact hS9, (HO.out.drewN _).src hg9 hqb, (HK.out.drewN _).src hbr hg9, (HF.out.drewN _).srcG hg9⟩
        | exact ⟨3, p2 + 1, o2, _, rfl, by omega, .inr ⟨by omega, by omega, HT2.out⟩, by rw [← HN.out]; exact hS9, (HO.out.drewN _).src hg9 hqb, (HK.out.drewN _).src hbr hg9, (HF.out.drewN _).srcG hg9⟩
        | exact ⟨4, p2 + 1, o2, _, rfl, by omega, .inr ⟨by omega, by omega, HT2.out⟩, by rw [← HN.out]; exact hS9, (HO.out.drewN _).src hg9 hqb, (HK.out.drewN _).src hbr hg9, (HF.out.drewN _).srcG hg9⟩
        | exact ⟨5, p2 + 1, o2, _, rfl, by omega, .inr ⟨by omega, by omega, HT2.out⟩, by rw [← HN.out]; exact hS9, (HO.out.drewN _).src hg9 hqb, (HK.out.drewN _).src hbr hg9, (HF.out.drewN _).srcG hg9⟩
        | exact ⟨6, p2 + 1, o2, _, rfl, by omega, .inr ⟨by omega, by omega, HT2.out⟩, by rw [← HN.out]; exact hS9, (HO.out.drewN _).src hg9 hqb, (HK.out.drewN _).src hbr hg9, (HF.out.drewN _).srcG hg9⟩
    case inr.inr.inl =>
      rw [← HN.out] at hpn
      have HAV := hid (available q A N c (8 * p2) wr HS.out (by omega) (by omega))
      obtain ⟨D, hD⟩ : ∃ D, D = 8 * N - 8 * p2 := ⟨_, rfl⟩
      have hD8 : (0 : Int) < (D : Int) := by omega
      rw [← hD] at HAV
      have HPN := hid hpn
      obtain ⟨b, hb⟩ : ∃ b, b = 130 + d := ⟨_, rfl⟩
      rw [hw, ← hb] at HR
      have e0 : ((b : Int) == 0) = false := by simp; omega
      have e1 : ¬ (b : Int) ≤ 128 := by omega
      have e2 : ((b : Int) == 129) = false := by simp; omega
      have e3 : (b : Int) ≤ 229 := by omega
      have e4 : (b : Int) - 130 = (d : Nat) := by omega
      have m1 := hid (show (u8s o2).length + 1 ≤ maxLen by rw [u8s_len]; simp [maxLen]; omega)
      have m2 := hid (show ((u8s o2).length + 1) * 1 ≤ 140737488355328 by rw [u8s_len]; omega)
      have HT2 := hid hT2
      have HIT := hid (fun V => itoaM d (by omega) V)
      have HMN := hid (show p < p2 + 1 from by omega)
      have hgN : p2 + 1 ≤ N := hpn
      clear hD hw hb hT2 HT
      have cvt : ∀ V : World, ∃ cp V', (convert 9 28 (.string (strOf (numL d)))).run Tryd.prog V = .ok (.slice (some ⟨V.heap.size, 0, none⟩) (numL d).length cp) V' ∧ Rd V' (some ⟨V.heap.size, 0, none⟩) (numL d).length (u8s (numL d)) ∧ Below V.heap.size V V' := fun V => by
        obtain ⟨cp, V', h1, h2, h3, _⟩ := str_conv V (numL d) (by intro x hx; unfold numL at hx; split at hx <;> simp at hx <;> omega)
        rw [strOf_size] at h1
        exact ⟨cp, V', h1, h2, h3⟩
      have CVT := hid cvt
      clear cvt
      obtain ⟨S, hS⟩ : ∃ S, S = numL d := ⟨_, rfl⟩
      rw [← hS] at HIT CVT
      obtain ⟨sl, hsl⟩ : ∃ sl, sl = S.length := ⟨_, rfl⟩
      rw [← hsl] at CVT
      have HSL := hid hsl
      have hsl2 : sl ≤ 2 := by rw [hsl, hS]; unfold numL; split <;> simp
      by_cases h10 : d < 10
      case pos =>
        have h10' : (d : Int) < 10 := by omega
        have hSX : [48] ++ S = [48 + d / 10, 48 + d % 10] := by rw [hS, numL, if_pos h10, show d / 10 = 0 from by omega, show d % 10 = d from by omega]; rfl
        have HSX := hid hSX
        clear hsl hSX hS
        go_wp2_with (first | (go_at_call 33; ((with_reducible refine HAV.out.mono ?_); rintro e w1 ⟨rfl, k1, rfl⟩)) | (go_at_call 47; ((with_reducible refine (HR.out _ HPN.out (HS.out.drewN _) (HRD.out.drewN _)).mono ?_); rintro e w9 ⟨rfl, hS9, hg9⟩; have HO9 := hid ((HO.out.drewN k1).src hg9 hqb); have HK9 := hid ((HK.out.drewN k1).src hbr hg9); have HF9 := hid ((HF.out.drewN k1).srcG hg9); have HS9 := hid hS9; have HB9 := hid (Nat.le_trans hbr hg9.size))) | (at_builtin; refine wpList_app _ rfl _ _ 28 rfl B 5 i5 _ 1 Tryd.underlying28 gi gz0 gz1 gz2 rfl _ (u8s o2) rfl (HO9.out.alloc _) _ 1 1 [.int .u8 48] rfl (Rd.one' _ _ _ _ (by first | rfl | (simp; done))) (by intro u hu; rw [List.mem_singleton.1 hu]; rfl) m1.out m2.out (Nat.le_trans HB9.out (by simp <;> omega)) ?_))
        intro v5 w5 hO5 hg5 hown5
        have HO5 := hid (show Own w5 B 5 v5 (u8s (o2 ++ [48])) from by unfold u8s at hO5 ⊢; rw [List.map_append]; exact hO5)
        have HK5 := hid ((HK9.out.alloc HB9.out _).own (Nat.le_trans HB9.out (by simp <;> omega)) hg5 (fun j hj => (HO9.out.lt j hj).1))
        have HS5 := hid ((HS9.out.alloc _).own hg5 (fun e => by have := (HO9.out.lt q e.symm).1; omega))
        have HF5 := hid ((HF9.out.alloc _).trans (Fr.app q hg5 (by simpa using hown5)))
        have HB5 := hid (Nat.le_trans HB9.out (Nat.le_trans (show w9.heap.size ≤ _ from by simp <;> omega) hg5.size))
        clear hO5 hg5 hown5 HO9 HK9 HF9 HS9 hS9 hg9 HB9 m1 m2
        have HOX := hid (show (o2 ++ [48]) ++ S = o2 ++ [48 + d / 10, 48 + d % 10] from by rw [List.append_assoc, HSX.out])
        obtain ⟨o5, ho5⟩ : ∃ o5, o5 = o2 ++ [48] := ⟨_, rfl⟩
        have hol5 : o5.length ≤ 90001 := by rw [ho5, List.length_append]; simp; omega
        rw [← ho5] at HO5 HOX
        clear ho5
        obtain ⟨cp, w7, hcv, hcR, hcb⟩ := CVT.out w5
        have HCR := hid hcR
        have HO7 := hid (HO5.out.below hcb (fun k hk => (HO5.out.lt k hk).2))
        have HK7 := hid (HK5.out.below (hcb.mono HB5.out))
        have HS7 := hid (show Src w7 q A N c (8 * (p2 + 1)) from Arr.below HS5.out hcb (Nat.lt_of_lt_of_le hqb HB5.out))
        have HF7 := hid (HF5.out.belowG hcb)
        have HB7 := hid (Nat.le_trans HB5.out hcb.size)
        have n1 := hid (show (u8s o5).length + sl ≤ maxLen by rw [u8s_len]; simp [maxLen]; omega)
        have n2 := hid (show ((u8s o5).length + sl) * 1 ≤ 140737488355328 by rw [u8s_len]; omega)
        have hu1 := u8s_one S
        clear hcR hcb CVT HO5 HK5 HS5 HF5 HB5
        go_wp2_with (first | (go_at_call 48; ((with_reducible refine (HIT.out _).mono ?_); rintro e w' ⟨rfl, rfl⟩)) | (at_builtin; refine wpList_app _ rfl _ _ 28 rfl B 5 i5 _ 1 Tryd.underlying28 gi gz0 gz1 gz2 rfl _ (u8s o5) rfl HO7.out _ sl cp (u8s S) rfl HCR.out hu1 n1.out n2.out HB7.out ?_))
        intro v8 w8 hO8 hg8 hown8
        have HO8 := hid (show Own w8 B 5 v8 (u8s (o2 ++ [48 + d / 10, 48 + d % 10])) from by rw [← HOX.out]; unfold u8s at hO8 ⊢; rw [List.map_append]; exact hO8)
        have HK8 := hid (HK7.out.own HB7.out hg8 (fun j hj => (HO7.out.lt j hj).1))
        have HS8 := hid (show Src w8 q A N c (8 * (p2 + 1)) from HS7.out.own hg8 (fun e => by have := (HO7.out.lt q e.symm).1; omega))
        have HF8 := hid (HF7.out.trans (Fr.app q hg8 hown8))
        clear hO8 hg8 hown8 HO7 HK7 HS7 HF7 HB7 HCR hcv
        go_wp2_with fail
        go_roundg (N - (p2 + 1))
        case measure => omega
        case rel => exact ⟨p2 + 1, _, rfl, rfl, rfl, by omega, HT2, HS8, HO8, HK8, HF8⟩
      case neg =>
        have h10' : ¬ (d : Int) < 10 := by omega
        have hSX : S = [48 + d / 10, 48 + d % 10] := by rw [hS, numL, if_neg h10]
        have HOX := hid (show o2 ++ S = o2 ++ [48 + d / 10, 48 + d % 10] from by rw [hSX])
        clear hsl hSX hS m1 m2
        have n1 := hid (show (u8s o2).length + sl ≤ maxLen by rw [u8s_len]; simp [maxLen]; omega)
        have n2 := hid (show ((u8s o2).length + sl) * 1 ≤ 140737488355328 by rw [u8s_len]; omega)
        have hu1 := u8s_one S
        go_wp2_with (first | (go_at_call 33; ((with_reducible refine HAV.out.mono ?_); rintro e w1 ⟨rfl, k1, rfl⟩)) | (go_at_call 47; ((with_reducible refine (HR.out _ HPN.out (HS.out.drewN _) (HRD.out.drewN _)).mono ?_); rintro e w9 ⟨rfl, hS9, hg9⟩; have HO9 := hid ((HO.out.drewN k1).src hg9 hqb); have HK9 := hid ((HK.out.drewN k1).src hbr hg9); have HF9 := hid ((HF.out.drewN k1).srcG hg9); have HS9 := hid hS9; have HB9 := hid (Nat.le_trans hbr hg9.size); obtain ⟨cp, w7, hcv, hcR, hcb⟩ := CVT.out w9; have HCR := hid hcR; have HO7 := hid (HO9.out.below hcb (fun k hk => (HO9.out.lt k hk).2)); have HK7 := hid (HK9.out.below (hcb.mono HB9.out)); have HS7 := hid (show Src w7 q A N c (8 * (p2 + 1)) from Arr.below HS9.out hcb (Nat.lt_of_lt_of_le hqb HB9.out)); have HF7 := hid (HF9.out.belowG hcb); have HB7 := hid (Nat.le_trans HB9.out hcb.size))) | (go_at_call 48; ((with_reducible refine (HIT.out _).mono ?_); rintro e w' ⟨rfl, rfl⟩)) | (at_builtin; refine wpList_app _ rfl _ _ 28 rfl B 5 i5 _ 1 Tryd.underlying28 gi gz0 gz1 gz2 rfl _ (u8s o2) rfl HO7.out _ sl cp (u8s S) rfl HCR.out hu1 n1.out n2.out HB7.out ?_))
        intro v8 w8 hO8 hg8 hown8
        have HO8 := hid (show Own w8 B 5 v8 (u8s (o2 ++ [48 + d / 10, 48 + d % 10])) from by rw [← HOX.out]; unfold u8s at hO8 ⊢; rw [List.map_append]; exact hO8)
        have HK8 := hid (HK7.out.own HB7.out hg8 (fun j hj => (HO7.out.lt j hj).1))
        have HS8 := hid (show Src w8 q A N c (8 * (p2 + 1)) from HS7.out.own hg8 (fun e => by have := (HO7.out.lt q e.symm).1; omega))
        have HF8 := hid (HF7.out.trans (Fr.app q hg8 hown8))
        clear hO8 hg8 hown8 HO7 HK7 HS7 HF7 HB7 HCR hcv hcR hcb HO9 HK9 HF9 HS9 hS9 hg9 HB9
        go_wp2_with fail
        go_roundg (N - (p2 + 1))
        case measure => omega
        case rel => exact ⟨p2 + 1, _, rfl, rfl, rfl, by omega, HT2, HS8, HO8, HK8, HF8⟩
end Go.Proofs.YtfmjkflihnfneaaDoor
