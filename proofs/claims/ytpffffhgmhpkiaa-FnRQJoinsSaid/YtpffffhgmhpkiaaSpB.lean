/- QR codes: the reader of numeric segments. Printed by gen_sp.py. -/
import Derived.Test.YtpffffhgmhpkiaaSpA
namespace Go.Proofs.Ytpffffhgmhpkiaa
open Go.RowKit
set_option linter.unusedVariables false
set_option linter.unusedSimpArgs false
/-- What a segment's reader leaves: the source at place p', and the text o'. -/
def SegO (W : List Nat) (A : Option Addr) (c q B p' : Nat) (o' : List Nat) (v : Value) (w : World) (e : Ending) (w' : World) : Prop :=
  ∃ v', e = .returned (.tuple #[v', .nilIface]) ∧ Src w' q A W.length c p' ∧ Own w' B 5 v' (u8s o') ∧ Kp B q w w' ∧ Fr q v w v' w'
/-- The state in the middle of a segment. -/
structure SegAt (W : List Nat) (A : Option Addr) (c q B p' : Nat) (o' : List Nat) (v : Value) (w : World) (v' : Value) (w' : World) : Prop where
  src : Src w' q A W.length c p'
  own : Own w' B 5 v' (u8s o')
  kp : Kp B q w w'
  fr : Fr q v w v' w'
theorem len_ok {o : List Nat} (h : o.length ≤ 90000) {x : List Value} (hx : x.length ≤ o.length + 10) : x.length + 1 ≤ maxLen ∧ (x.length + 1) * 1 ≤ 140737488355328 := by
  simp only [maxLen]; omega

def Digs (s : List Nat) : Prop := ∀ c ∈ s, 48 ≤ c ∧ c ≤ 57
set_option maxRecDepth 20000 in
set_option maxHeartbeats 8000000 in
theorem numSeg (W : List Nat) (A : Option Addr) (c q B p : Nat) (v : Value) (s o : List Nat) (k : Nat) (w : World) (hC : Rdr W A c q B w) (hS : Src w q A W.length c p) (hO : Own w B 5 v (u8s o)) (hT : RAt W p (numD s)) (hd : Digs s) (hk : k = s.length) (hl : o.length + s.length ≤ 90000) :
    Calls Try.prog 97 #[.pointer (some ⟨q, 0, none⟩), v, .int .i64 k] w (SegO W A c q B (p + lenD (numD s)) (o ++ s) v w) := by
  obtain ⟨i5, gi, gz0, gz1, gz2⟩ := info_of info5
  obtain ⟨N, hN⟩ : ∃ N, N = W.length := ⟨_, rfl⟩
  have HN := hid hN
  have hNl : N ≤ 4000 := by rw [hN]; exact hC.n
  have hqb := hC.qb
  have HC := hid hC
  have HST := hid (show SegAt W A c q B p o v w v w from ⟨hS, hO, Kp.refl _ _ _, Fr.refl _ _ _⟩)
  have HT := hid hT
  have HD := hid hd
  have HK0 := hid hk
  obtain ⟨E, hE⟩ : ∃ E, E = p + lenD (numD s) := ⟨_, rfl⟩
  obtain ⟨O, hO'⟩ : ∃ O, O = o ++ s := ⟨_, rfl⟩
  have HE := hid hE
  have HOO := hid hO'
  rw [← hE, ← hO']
  have RM := hid (fun p2 m (hm1 : 1 ≤ m) (hm2 : m ≤ 32) V (hm3 : p2 + m ≤ 8 * W.length) (hS : Src V q A W.length c p2) (hR : Rd V A W.length (u8s W)) => readM q A W.length c p2 W m V hS hC.n hR hC.lt (fun a ha => (hC.ab a ha).2) hm1 hm2 hm3)
  have hol : O.length ≤ 90000 := by rw [hO', List.length_append]; omega
  clear hN hC hS hO hT hd hk hE hO'
  go_enter Try.func97, Try.ntmps97
  go_wp2_with fail
  go_loopw [1, 2] (fun ov cv wr => ∃ (p2 k2 : Nat) (o2 s2 : List Nat), cv = .int .i64 (k2 : Nat) ∧ Hid (k2 = s2.length) ∧ Hid (O = o2 ++ s2 ∧ E = p2 + lenD (numD s2)) ∧ Hid (RAt W p2 (numD s2)) ∧ Hid (Digs s2) ∧ Hid (SegAt W A c q B p2 o2 v w ov wr)) (fun _ cv _ => (intOf cv).toNat)
  case atStart => exact ⟨p, k, o, s, rfl, HK0, ⟨HOO.out, HE.out⟩, HT, HD, HST⟩
  case round =>
    clear HT HD HST HK0 HE HOO
    obtain ⟨p2, k2, o2, s2, rfl, HK2, HE, HT, HD, HST⟩ := hrel
    have HRD0 := hid (HC.out.kp HST.out.kp).rd
    have HB0 := hid (Nat.le_trans HC.out.bs HST.out.kp.size)
    have HS0 := hid HST.out.src
    have HO0 := hid HST.out.own
    have HK0 := hid HST.out.kp
    have HF0 := hid HST.out.fr
    have HL := hid (show o2.length ≤ 90000 from by have := congrArg List.length HE.out.1; rw [List.length_append] at this; omega)
    clear HST
    rcases s2 with _ | ⟨x1, _ | ⟨x2, _ | ⟨x3, s3⟩⟩⟩
    · obtain rfl : k2 = 0 := HK2.out
      go_wp2_with fail
      go_ret2
      refine ⟨_, rfl, ?_, ?_, HK0.out, HF0.out⟩
      · have := HE.out.2; simp only [numD, lenD, List.map_nil, List.sum_nil, Nat.add_zero] at this; rw [this]; exact HS0.out
      · have := HE.out.1; rw [List.append_nil] at this; rw [this]; exact HO0.out
    · obtain ⟨r1, r2, _⟩ := HT.out
      obtain ⟨d1, d2⟩ := HD.out x1 (by simp)
      obtain rfl : k2 = 1 := HK2.out
      have HR := hid (fun V h1 h2 => show Calls Try.prog 91 #[.pointer (some ⟨q, 0, none⟩), .int .i64 4] V _ from RM.out p2 4 (by omega) (by omega) V r1 h1 h2)
      rw [r2] at HR
      obtain ⟨x, hx⟩ : ∃ x, x = x1 - 48 := ⟨_, rfl⟩
      rw [← hx] at HR
      have e1 : (48 : Int) + (x : Int) = (x1 : Nat) := by omega
      have hx10 : (x : Int) < 10 := by omega
      clear hx r1 r2 HT HD
      go_wp2_with (first | (go_at_call 91; ((with_reducible refine (HR.out _ HS0.out HRD0.out).mono ?_); rintro e w9 ⟨rfl, hS9, hg9⟩; have HO1 := hid (HO0.out.src hg9 hqb); have HK1 := hid (HK0.out.src HB0.out hg9); have HF1 := hid (HF0.out.srcG hg9); have HS1 := hid hS9; have HB1 := hid (Nat.le_trans HB0.out hg9.size); clear hS9 hg9 HO0 HK0 HF0 HS0 HRD0)) | (at_builtin; refine wpList_app _ rfl _ _ 22 rfl B 5 i5 _ 1 Try.underlying22 gi gz0 gz1 gz2 rfl _ (u8s (o2)) rfl (HO1.out.alloc _) _ 1 1 [.int .u8 ((x1 : Nat))] rfl (Rd.one' _ _ _ _ (by first | rfl | (simp; done))) (by intro u hu; rw [List.mem_singleton.1 hu]; rfl) (len_ok HL.out (by rw [u8s_len]; (try simp only [List.length_append, List.length_cons, List.length_nil]); omega)).1 (len_ok HL.out (by rw [u8s_len]; (try simp only [List.length_append, List.length_cons, List.length_nil]); omega)).2 (Nat.le_trans HB1.out (by simp <;> omega)) ?_))
      intro v2 w2 hO hg hown
      have HO2 := hid (show Own w2 B 5 v2 (u8s (o2 ++ [x1])) from by unfold u8s at hO ⊢; first | (rw [List.map_append]; exact hO) | simpa using hO)
      have HK2 := hid ((HK1.out.alloc HB1.out _).own (Nat.le_trans HB1.out (by simp <;> omega)) hg (fun j hj => (HO1.out.lt j hj).1))
      have HS2 := hid ((HS1.out.alloc _).own hg (fun e => by have := (HO1.out.lt q e.symm).1; omega))
      have HF2 := hid ((HF1.out.alloc _).trans (Fr.app q hg (by simpa using hown)))
      have HB2 := hid (show B ≤ w2.heap.size from Nat.le_trans (Nat.le_trans HB1.out (by simp <;> omega)) hg.size)
      clear hO hg hown HO1 HK1 HS1 HF1 HB1
      go_wp2_with fail
      go_ret2
      refine ⟨_, rfl, ?_, ?_, HK2.out, HF2.out⟩
      · have := HE.out.2; simp only [numD, lenD, List.map_nil, List.sum_nil, List.map_cons, List.sum_cons, Nat.add_zero] at this; rw [this]; exact HS2.out
      · have := HE.out.1; rw [this]; exact HO2.out
    · obtain ⟨r1, r2, _⟩ := HT.out
      obtain ⟨d1, d2⟩ := HD.out x1 (by simp)
      obtain ⟨d3, d4⟩ := HD.out x2 (by simp)
      obtain rfl : k2 = 2 := HK2.out
      have HR := hid (fun V h1 h2 => show Calls Try.prog 91 #[.pointer (some ⟨q, 0, none⟩), .int .i64 7] V _ from RM.out p2 7 (by omega) (by omega) V r1 h1 h2)
      rw [r2] at HR
      obtain ⟨x, hx⟩ : ∃ x, x = 10 * (x1 - 48) + (x2 - 48) := ⟨_, rfl⟩
      rw [← hx] at HR
      have e1 : (48 : Int) + (x : Int) / 10 = (x1 : Nat) := by omega
      have e2 : (48 : Int) + (x : Int) % 10 = (x2 : Nat) := by omega
      have hx100 : (x : Int) < 100 := by omega
      clear hx r1 r2 HT HD
      go_wp2_with (first | (go_at_call 91; ((with_reducible refine (HR.out _ HS0.out HRD0.out).mono ?_); rintro e w9 ⟨rfl, hS9, hg9⟩; have HO1 := hid (HO0.out.src hg9 hqb); have HK1 := hid (HK0.out.src HB0.out hg9); have HF1 := hid (HF0.out.srcG hg9); have HS1 := hid hS9; have HB1 := hid (Nat.le_trans HB0.out hg9.size); clear hS9 hg9 HO0 HK0 HF0 HS0 HRD0)) | (at_builtin; refine wpList_app _ rfl _ _ 22 rfl B 5 i5 _ 1 Try.underlying22 gi gz0 gz1 gz2 rfl _ (u8s (o2)) rfl (HO1.out.alloc _) _ 1 1 [.int .u8 ((x1 : Nat))] rfl (Rd.one' _ _ _ _ (by first | rfl | (simp; done))) (by intro u hu; rw [List.mem_singleton.1 hu]; rfl) (len_ok HL.out (by rw [u8s_len]; (try simp only [List.length_append, List.length_cons, List.length_nil]); omega)).1 (len_ok HL.out (by rw [u8s_len]; (try simp only [List.length_append, List.length_cons, List.length_nil]); omega)).2 (Nat.le_trans HB1.out (by simp <;> omega)) ?_))
      intro v2 w2 hO hg hown
      have HO2 := hid (show Own w2 B 5 v2 (u8s (o2 ++ [x1])) from by unfold u8s at hO ⊢; first | (rw [List.map_append]; exact hO) | simpa using hO)
      have HK2 := hid ((HK1.out.alloc HB1.out _).own (Nat.le_trans HB1.out (by simp <;> omega)) hg (fun j hj => (HO1.out.lt j hj).1))
      have HS2 := hid ((HS1.out.alloc _).own hg (fun e => by have := (HO1.out.lt q e.symm).1; omega))
      have HF2 := hid ((HF1.out.alloc _).trans (Fr.app q hg (by simpa using hown)))
      have HB2 := hid (show B ≤ w2.heap.size from Nat.le_trans (Nat.le_trans HB1.out (by simp <;> omega)) hg.size)
      clear hO hg hown HO1 HK1 HS1 HF1 HB1
      go_wp2_with ((at_builtin; refine wpList_app _ rfl _ _ 22 rfl B 5 i5 _ 1 Try.underlying22 gi gz0 gz1 gz2 rfl _ (u8s (o2 ++ [x1])) rfl (HO2.out.alloc _) _ 1 1 [.int .u8 ((x2 : Nat))] rfl (Rd.one' _ _ _ _ (by first | rfl | (simp; done))) (by intro u hu; rw [List.mem_singleton.1 hu]; rfl) (len_ok HL.out (by rw [u8s_len]; (try simp only [List.length_append, List.length_cons, List.length_nil]); omega)).1 (len_ok HL.out (by rw [u8s_len]; (try simp only [List.length_append, List.length_cons, List.length_nil]); omega)).2 (Nat.le_trans HB2.out (by simp <;> omega)) ?_))
      intro v3 w3 hO hg hown
      have HO3 := hid (show Own w3 B 5 v3 (u8s (o2 ++ [x1] ++ [x2])) from by unfold u8s at hO ⊢; first | (rw [List.map_append]; exact hO) | simpa using hO)
      have HK3 := hid ((HK2.out.alloc HB2.out _).own (Nat.le_trans HB2.out (by simp <;> omega)) hg (fun j hj => (HO2.out.lt j hj).1))
      have HS3 := hid ((HS2.out.alloc _).own hg (fun e => by have := (HO2.out.lt q e.symm).1; omega))
      have HF3 := hid ((HF2.out.alloc _).trans (Fr.app q hg (by simpa using hown)))
      have HB3 := hid (show B ≤ w3.heap.size from Nat.le_trans (Nat.le_trans HB2.out (by simp <;> omega)) hg.size)
      clear hO hg hown HO2 HK2 HS2 HF2 HB2
      go_wp2_with fail
      go_ret2
      refine ⟨_, rfl, ?_, ?_, HK3.out, HF3.out⟩
      · have := HE.out.2; simp only [numD, lenD, List.map_nil, List.sum_nil, List.map_cons, List.sum_cons, Nat.add_zero] at this; rw [this]; exact HS3.out
      · have := HE.out.1; rw [this, show o2 ++ [x1, x2] = o2 ++ [x1] ++ [x2] by simp]; exact HO3.out
    · obtain ⟨r1, r2, r3⟩ := HT.out
      obtain ⟨d1, d2⟩ := HD.out x1 (by simp)
      obtain ⟨d3, d4⟩ := HD.out x2 (by simp)
      obtain ⟨d5, d6⟩ := HD.out x3 (by simp)
      have HT3 := hid r3
      have HD3 := hid (show Digs s3 from fun c hc => HD.out c (by simp [hc]))
      have HR := hid (fun V h1 h2 => show Calls Try.prog 91 #[.pointer (some ⟨q, 0, none⟩), .int .i64 10] V _ from RM.out p2 10 (by omega) (by omega) V r1 h1 h2)
      rw [r2] at HR
      obtain ⟨x, hx⟩ : ∃ x, x = 100 * (x1 - 48) + 10 * (x2 - 48) + (x3 - 48) := ⟨_, rfl⟩
      rw [← hx] at HR
      have e1 : (48 : Int) + (x : Int) / 100 = (x1 : Nat) := by omega
      have e2 : (48 : Int) + (x : Int) / 10 % 10 = (x2 : Nat) := by omega
      have e3 : (48 : Int) + (x : Int) % 10 = (x3 : Nat) := by omega
      have hx1000 : (x : Int) < 1000 := by omega
      obtain ⟨m, hm⟩ : ∃ m, m = s3.length := ⟨_, rfl⟩
      have HM := hid hm
      have hlen : (x1 :: x2 :: x3 :: s3).length = m + 3 := by simp [hm]
      obtain rfl : k2 = m + 3 := HK2.out.trans hlen
      have hm0 : (3 : Int) ≤ ((m + 3 : Nat) : Int) := by omega
      have hml : m ≤ 100000 := by have := congrArg List.length HE.out.1; rw [List.length_append, hlen] at this; omega
      clear hx r1 r2 r3 HT HD hm hlen
      go_wp2_with (first | (go_at_call 91; ((with_reducible refine (HR.out _ HS0.out HRD0.out).mono ?_); rintro e w9 ⟨rfl, hS9, hg9⟩; have HO1 := hid (HO0.out.src hg9 hqb); have HK1 := hid (HK0.out.src HB0.out hg9); have HF1 := hid (HF0.out.srcG hg9); have HS1 := hid hS9; have HB1 := hid (Nat.le_trans HB0.out hg9.size); clear hS9 hg9 HO0 HK0 HF0 HS0 HRD0)) | (at_builtin; refine wpList_app _ rfl _ _ 22 rfl B 5 i5 _ 1 Try.underlying22 gi gz0 gz1 gz2 rfl _ (u8s (o2)) rfl (HO1.out.alloc _) _ 1 1 [.int .u8 ((x1 : Nat))] rfl (Rd.one' _ _ _ _ (by first | rfl | (simp; done))) (by intro u hu; rw [List.mem_singleton.1 hu]; rfl) (len_ok HL.out (by rw [u8s_len]; (try simp only [List.length_append, List.length_cons, List.length_nil]); omega)).1 (len_ok HL.out (by rw [u8s_len]; (try simp only [List.length_append, List.length_cons, List.length_nil]); omega)).2 (Nat.le_trans HB1.out (by simp <;> omega)) ?_))
      intro v2 w2 hO hg hown
      have HO2 := hid (show Own w2 B 5 v2 (u8s (o2 ++ [x1])) from by unfold u8s at hO ⊢; first | (rw [List.map_append]; exact hO) | simpa using hO)
      have HK2 := hid ((HK1.out.alloc HB1.out _).own (Nat.le_trans HB1.out (by simp <;> omega)) hg (fun j hj => (HO1.out.lt j hj).1))
      have HS2 := hid ((HS1.out.alloc _).own hg (fun e => by have := (HO1.out.lt q e.symm).1; omega))
      have HF2 := hid ((HF1.out.alloc _).trans (Fr.app q hg (by simpa using hown)))
      have HB2 := hid (show B ≤ w2.heap.size from Nat.le_trans (Nat.le_trans HB1.out (by simp <;> omega)) hg.size)
      clear hO hg hown HO1 HK1 HS1 HF1 HB1
      go_wp2_with ((at_builtin; refine wpList_app _ rfl _ _ 22 rfl B 5 i5 _ 1 Try.underlying22 gi gz0 gz1 gz2 rfl _ (u8s (o2 ++ [x1])) rfl (HO2.out.alloc _) _ 1 1 [.int .u8 ((x2 : Nat))] rfl (Rd.one' _ _ _ _ (by first | rfl | (simp; done))) (by intro u hu; rw [List.mem_singleton.1 hu]; rfl) (len_ok HL.out (by rw [u8s_len]; (try simp only [List.length_append, List.length_cons, List.length_nil]); omega)).1 (len_ok HL.out (by rw [u8s_len]; (try simp only [List.length_append, List.length_cons, List.length_nil]); omega)).2 (Nat.le_trans HB2.out (by simp <;> omega)) ?_))
      intro v3 w3 hO hg hown
      have HO3 := hid (show Own w3 B 5 v3 (u8s (o2 ++ [x1] ++ [x2])) from by unfold u8s at hO ⊢; first | (rw [List.map_append]; exact hO) | simpa using hO)
      have HK3 := hid ((HK2.out.alloc HB2.out _).own (Nat.le_trans HB2.out (by simp <;> omega)) hg (fun j hj => (HO2.out.lt j hj).1))
      have HS3 := hid ((HS2.out.alloc _).own hg (fun e => by have := (HO2.out.lt q e.symm).1; omega))
      have HF3 := hid ((HF2.out.alloc _).trans (Fr.app q hg (by simpa using hown)))
      have HB3 := hid (show B ≤ w3.heap.size from Nat.le_trans (Nat.le_trans HB2.out (by simp <;> omega)) hg.size)
      clear hO hg hown HO2 HK2 HS2 HF2 HB2
      go_wp2_with ((at_builtin; refine wpList_app _ rfl _ _ 22 rfl B 5 i5 _ 1 Try.underlying22 gi gz0 gz1 gz2 rfl _ (u8s (o2 ++ [x1] ++ [x2])) rfl (HO3.out.alloc _) _ 1 1 [.int .u8 ((x3 : Nat))] rfl (Rd.one' _ _ _ _ (by first | rfl | (simp; done))) (by intro u hu; rw [List.mem_singleton.1 hu]; rfl) (len_ok HL.out (by rw [u8s_len]; (try simp only [List.length_append, List.length_cons, List.length_nil]); omega)).1 (len_ok HL.out (by rw [u8s_len]; (try simp only [List.length_append, List.length_cons, List.length_nil]); omega)).2 (Nat.le_trans HB3.out (by simp <;> omega)) ?_))
      intro v4 w4 hO hg hown
      have HO4 := hid (show Own w4 B 5 v4 (u8s (o2 ++ [x1] ++ [x2] ++ [x3])) from by unfold u8s at hO ⊢; first | (rw [List.map_append]; exact hO) | simpa using hO)
      have HK4 := hid ((HK3.out.alloc HB3.out _).own (Nat.le_trans HB3.out (by simp <;> omega)) hg (fun j hj => (HO3.out.lt j hj).1))
      have HS4 := hid ((HS3.out.alloc _).own hg (fun e => by have := (HO3.out.lt q e.symm).1; omega))
      have HF4 := hid ((HF3.out.alloc _).trans (Fr.app q hg (by simpa using hown)))
      have HB4 := hid (show B ≤ w4.heap.size from Nat.le_trans (Nat.le_trans HB3.out (by simp <;> omega)) hg.size)
      clear hO hg hown HO3 HK3 HS3 HF3 HB3
      go_wp2_with fail
      go_roundw
      case rel =>
        have HX := hid (show O = o2 ++ [x1] ++ [x2] ++ [x3] ++ s3 ∧ E = p2 + 10 + lenD (numD s3) from ⟨by have := HE.out.1; rw [this]; simp, by have := HE.out.2; rw [this, numD, lenD_cons]; omega⟩)
        have HY := hid (show SegAt W A c q B (p2 + 10) (o2 ++ [x1] ++ [x2] ++ [x3]) v w v4 w4 from ⟨HS4.out, HO4.out, HK4.out, HF4.out⟩)
        first
        | exact ⟨p2 + 10, m, _, s3, by go_num, HM, HX, HT3, HD3, HY⟩
        | ((repeat apply Exists.intro); exact ⟨⟨p2 + 10, m, _, s3, by go_num, HM, HX, HT3, HD3, HY⟩, rfl⟩)
      case measure => simp [intOf]; omega
end Go.Proofs.Ytpffffhgmhpkiaa
