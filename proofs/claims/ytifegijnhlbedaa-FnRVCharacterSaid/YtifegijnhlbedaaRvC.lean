/- RSSUtils_getRSSvalue: the walk. Printed by gen_rv.py. -/
import Derived.Test.YtifegijnhlbedaaRvB
namespace Go.Proofs.Ytifegijnhlbedaa
open Go.RowKit
set_option linter.unusedVariables false
theorem mask_facts (B : Int) (M P : Nat) (h : (B = 1 ∧ M = 0 ∧ P = 1) ∨ (B = 2 ∧ M = 0 ∧ P = 2) ∨ (B = 2 ∧ M = 1 ∧ P = 3) ∨ (B = 4 ∧ M = 0 ∧ P = 4) ∨ (B = 4 ∧ M = 1 ∧ P = 5) ∨ (B = 4 ∧ M = 2 ∧ P = 6) ∨ (B = 4 ∧ M = 3 ∧ P = 7)) :
    bits .or .u64 (M : Int) B = (P : Int) ∧ bits .andNot .u64 (P : Int) B = (M : Int) ∧ bits .andNot .u64 (M : Int) B = (M : Int) := by
  rcases h with ⟨rfl, rfl, rfl⟩ | ⟨rfl, rfl, rfl⟩ | ⟨rfl, rfl, rfl⟩ | ⟨rfl, rfl, rfl⟩ | ⟨rfl, rfl, rfl⟩ | ⟨rfl, rfl, rfl⟩ | ⟨rfl, rfl, rfl⟩ <;> exact ⟨rfl, rfl, rfl⟩
theorem sub_step (bar n most e : Nat) (nn pm : Bool) (V : Int) (he : 1 ≤ e) : V + subs bar n most nn pm (e - 1) + subv bar n e most nn (pm && decide (1 < e)) = V + subs bar n most nn pm (e + 1 - 1) := by
  obtain ⟨u, rfl⟩ : ∃ u, e = u + 1 := ⟨e - 1, by omega⟩
  simp only [Nat.add_sub_cancel]
  rw [subs]
  omega
theorem sub0_no (bar n e most : Nat) (nn mz : Bool) (h : nn = false ∨ mz = false ∨ ¬ 6 - 2 * bar ≤ n - e) : sub0 bar n e most nn mz = ((cb (n - e - 1) (2 - bar) : Nat) : Int) := by
  unfold sub0
  rw [if_neg (by rcases h with rfl | rfl | h <;> simp_all)]; omega
theorem sub0_yes (bar n e most : Nat) (h : 6 - 2 * bar ≤ n - e) : sub0 bar n e most true true = ((cb (n - e - 1) (2 - bar) : Nat) : Int) - ((cb (n - e - (4 - bar)) (2 - bar) : Nat) : Int) := by
  unfold sub0
  rw [if_pos (by simp [h])]
theorem subv_lt (bar n e most : Nat) (nn mz : Bool) (h : bar < 2) : subv bar n e most nn mz = sub0 bar n e most nn mz - ((lsum (1 - bar) (n - e - (2 - bar) - most) : Nat) : Int) * ((3 - bar : Nat) : Int) := by
  unfold subv; rw [if_pos h]
theorem subv_2 (n e most : Nat) (nn mz : Bool) : subv 2 n e most nn mz = sub0 2 n e most nn mz - (if most < n - e then 1 else 0) := by
  unfold subv; rw [if_neg (by decide)]
theorem lsum_succ (r t : Nat) : lsum r t + cb (r + t) r = lsum r (t + 1) := rfl


set_option maxRecDepth 20000 in
set_option maxHeartbeats 40000000 in
theorem rssValue (g o : Nat) (xa xb xc xd c most : Nat) (nn : Bool) (hm1 : 1 ≤ most) (hm : most ≤ 8) (ha : 1 ≤ xa) (hb : 1 ≤ xb) (hc : 1 ≤ xc) (hd : 1 ≤ xd) (hs : xa + xb + xc + xd ≤ 20) (w : World)
    (c0 : w.cell? ⟨g, o, none⟩ = some (.int .i64 xa)) (c1 : w.cell? ⟨g, o + 1, none⟩ = some (.int .i64 xb)) (c2 : w.cell? ⟨g, o + 2, none⟩ = some (.int .i64 xc)) (c3 : w.cell? ⟨g, o + 3, none⟩ = some (.int .i64 xd)) :
    Calls Try.prog 26 #[.slice (some ⟨g, o, none⟩) 4 c, .int .i64 most, .bool nn] w fun e w' => e = .returned (.int .i64 (codeVal xa xb xc xd most nn)) ∧ w = w' := by
  obtain ⟨N0, hN0⟩ : ∃ n, n = xa + xb + xc + xd := ⟨_, rfl⟩
  obtain ⟨N1, hN1⟩ : ∃ n, n = xb + xc + xd := ⟨_, rfl⟩
  obtain ⟨N2, hN2⟩ : ∃ n, n = xc + xd := ⟨_, rfl⟩
  obtain ⟨pm0, hp0⟩ : ∃ p, p = true := ⟨_, rfl⟩
  obtain ⟨pm1, hp1⟩ : ∃ p, p = decide (1 < xa) := ⟨_, rfl⟩
  obtain ⟨pm2, hp2⟩ : ∃ p, p = (decide (1 < xa) && decide (1 < xb)) := ⟨_, rfl⟩
  obtain ⟨M0, hM0⟩ : ∃ m : Nat, m = 0 := ⟨_, rfl⟩
  obtain ⟨M1, hM1⟩ : ∃ m : Nat, m = if 1 < xa then 0 else 1 := ⟨_, rfl⟩
  obtain ⟨M2, hM2⟩ : ∃ m : Nat, m = M1 + if 1 < xb then 0 else 2 := ⟨_, rfl⟩
  obtain ⟨P0, hP0⟩ : ∃ m : Nat, m = M0 + 1 := ⟨_, rfl⟩
  obtain ⟨P1, hP1⟩ : ∃ m : Nat, m = M1 + 2 := ⟨_, rfl⟩
  obtain ⟨P2, hP2⟩ : ∃ m : Nat, m = M2 + 4 := ⟨_, rfl⟩
  obtain ⟨V0, hV0⟩ : ∃ v : Int, v = 0 := ⟨_, rfl⟩
  obtain ⟨V1, hV1⟩ : ∃ v : Int, v = V0 + subs 0 N0 most nn pm0 (xa - 1) := ⟨_, rfl⟩
  obtain ⟨V2, hV2⟩ : ∃ v : Int, v = V1 + subs 1 N1 most nn pm1 (xb - 1) := ⟨_, rfl⟩
  obtain ⟨V3, hV3⟩ : ∃ v : Int, v = V2 + subs 2 N2 most nn pm2 (xc - 1) := ⟨_, rfl⟩
  have hres : codeVal xa xb xc xd most nn = V3 := by
    unfold codeVal
    rw [hV3, hV2, hV1, hV0, hp0, hp1, hp2, hN0, hN1, hN2]; omega
  rw [hres]
  clear hres
  have q1 : M1 = 0 ∨ M1 = 1 := by rw [hM1]; split <;> simp
  have q2 : M2 = 0 ∨ M2 = 1 ∨ M2 = 2 ∨ M2 = 3 := by rw [hM2]; rcases q1 with h | h <;> rw [h] <;> split <;> simp
  obtain ⟨f0a, f0b, f0c⟩ := mask_facts 1 M0 P0 (.inl ⟨rfl, hM0, by rw [hP0, hM0]⟩)
  obtain ⟨f1a, f1b, f1c⟩ := mask_facts 2 M1 P1 (by rcases q1 with h | h <;> (rw [hP1, h]; simp))
  obtain ⟨f2a, f2b, f2c⟩ := mask_facts 4 M2 P2 (by rcases q2 with h | h | h | h <;> (rw [hP2, h]; simp))
  have HA0 := hid f0b
  have HA1 := hid f1b
  have HA2 := hid f2b
  have HB0 := hid f0c
  have HB1 := hid f1c
  have HB2 := hid f2c
  have HP0 : Hid (1 ≤ P0) := hid (by omega)
  have HP1 : Hid (1 ≤ P1) := hid (by omega)
  have HP2 : Hid (1 ≤ P2) := hid (by omega)
  have HZ0 : Hid (((M0 : Int) == 0) = pm0) := hid (by rw [hM0, hp0]; rfl)
  have HZ1 : Hid (((M1 : Int) == 0) = pm1) := hid (by rw [hM1, hp1]; by_cases h : 1 < xa <;> simp [h])
  have HZ2 : Hid (((M2 : Int) == 0) = pm2) := hid (by rw [hM2, hM1, hp2]; by_cases h : 1 < xa <;> by_cases h2 : 1 < xb <;> simp [h, h2])
  have HM1a : Hid (xa = 1 → P0 = M1) := hid (fun h => by rw [hP0, hM0, hM1, if_neg (by omega)])
  have HM1b : Hid (1 < xa → M0 = M1) := hid (fun h => by rw [hM0, hM1, if_pos h])
  have HM2a : Hid (xb = 1 → P1 = M2) := hid (fun h => by rw [hP1, hM2, if_neg (by omega)])
  have HM2b : Hid (1 < xb → M1 = M2) := hid (fun h => by rw [hM2, if_pos h]; rfl)
  have hn0 : N0 ≤ 20 := by omega
  have hn1 : N1 ≤ 20 := by omega
  have hn2 : N2 ≤ 20 := by omega
  have SB0 := hid (subs_bd 0 N0 most nn pm0 hn0)
  have SB1 := hid (subs_bd 1 N1 most nn pm1 hn1)
  have SB2 := hid (subs_bd 2 N2 most nn pm2 hn2)
  have v0a : -1000000 ≤ V0 := by omega
  have v0b : V0 ≤ 1000000 := by omega
  have v1a : -2000000 ≤ V1 ∧ V1 ≤ 2000000 := by have := SB0.out (xa - 1); omega
  have v2a : -3000000 ≤ V2 ∧ V2 ≤ 3000000 := by have := SB1.out (xb - 1); omega
  obtain ⟨v1a, v1b⟩ := v1a
  obtain ⟨v2a, v2b⟩ := v2a
  have l0 : xa + 3 ≤ N0 := by omega
  have l1 : xb + 2 ≤ N1 := by omega
  have l2 : xc + 1 ≤ N2 := by omega
  have HN0 := hid hN0
  have HN1 : Hid (N0 = xa + N1) := hid (by omega)
  have HN2 : Hid (N1 = xb + N2) := hid (by omega)
  have HV00 := hid hV0
  have HV1 : Hid (V0 + subs 0 N0 most nn pm0 (xa - 1) = V1) := hid hV1.symm
  have HV2 : Hid (V1 + subs 1 N1 most nn pm1 (xb - 1) = V2) := hid hV2.symm
  have HV3 : Hid (V2 + subs 2 N2 most nn pm2 (xc - 1) = V3) := hid hV3.symm
  have HM0 := hid hM0
  clear hN0 hN1 hN2 hp0 hp1 hp2 hM0 hM1 hM2 hP0 hP1 hP2 hV0 hV1 hV2 hV3 f0b f0c f1b f1c f2b f2c q1 q2
  go_enter Try.func26, Try.ntmps26
  go_wp2
  go_loop [7, 20] (fun nv iv => (nv = .int .i64 0 ∧ iv = .int .i64 0) ∨ (nv = .int .i64 xa ∧ iv = .int .i64 1) ∨ (nv = .int .i64 ((xa : Int) + xb) ∧ iv = .int .i64 2) ∨ (nv = .int .i64 ((xa : Int) + xb + xc) ∧ iv = .int .i64 3) ∨ (nv = .int .i64 N0 ∧ iv = .int .i64 4)) (fun _ iv => (4 - intOf iv).toNat)
  case atStart => exact .inl ⟨rfl, rfl⟩
  case round =>
    rcases hrel with ⟨rfl, rfl⟩ | ⟨rfl, rfl⟩ | ⟨rfl, rfl⟩ | ⟨rfl, rfl⟩ | ⟨rfl, rfl⟩
    · go_wp2
      go_round
      case rel => exact .inr (.inl ⟨by go_num, rfl⟩)
      case measure => simp [intOf]
    · go_wp2
      go_round
      case rel => exact .inr (.inr (.inl ⟨rfl, rfl⟩))
      case measure => simp [intOf]
    · go_wp2
      go_round
      case rel => exact .inr (.inr (.inr (.inl ⟨rfl, rfl⟩)))
      case measure => simp [intOf]
    · go_wp2
      go_round
      case rel => exact .inr (.inr (.inr (.inr ⟨by rw [HN0.out]; go_num, rfl⟩)))
      case measure => simp [intOf]
    · go_wp2
      go_loop [7, 10, 11, 13] (fun nv vv mv bv => (nv = .int .i64 N0 ∧ vv = .int .i64 V0 ∧ mv = .int .u64 M0 ∧ bv = .int .i64 0) ∨ (nv = .int .i64 N1 ∧ vv = .int .i64 V1 ∧ mv = .int .u64 M1 ∧ bv = .int .i64 1) ∨ (nv = .int .i64 N2 ∧ vv = .int .i64 V2 ∧ mv = .int .u64 M2 ∧ bv = .int .i64 2) ∨ (∃ n m : Int, nv = .int .i64 n ∧ vv = .int .i64 V3 ∧ mv = .int .u64 m ∧ bv = .int .i64 3)) (fun _ _ _ bv => (3 - intOf bv).toNat)
      case atStart => exact .inl ⟨rfl, by rw [HV00.out], by rw [HM0.out]; rfl, rfl⟩
      case round =>
        rcases hrel with ⟨rfl, rfl, rfl, rfl⟩ | ⟨rfl, rfl, rfl, rfl⟩ | ⟨rfl, rfl, rfl, rfl⟩ | ⟨n, m, rfl, rfl, rfl, rfl⟩
        · as_aux_lemma =>
            have sbd := SB0.out
            go_wp2
            go_loop [10, 11, 14] (fun vv mv ev => ∃ e : Nat, 1 ≤ e ∧ e ≤ xa ∧ vv = .int .i64 (V0 + subs 0 N0 most nn pm0 (e - 1)) ∧ ev = .int .i64 e ∧ ∃ X : Nat, mv = .int .u64 X ∧ Hid ((e = 1 ∧ X = P0) ∨ (1 < e ∧ X = M0))) (fun _ _ ev => 30 - (intOf ev).toNat)
            case atStart => exact ⟨1, by omega, by omega, by simp [subs], rfl, P0, rfl, hid (.inl ⟨rfl, rfl⟩)⟩
            case round =>
              obtain ⟨e, he1, he2, rfl, rfl, X, rfl, hmask⟩ := hrel
              have hsb := SB0.out (e - 1)
              by_cases hex : e < xa
              · have hex2 : (e : Int) < (xa : Int) := by omega
                obtain ⟨hxn, hxz⟩ : bits .andNot .u64 (X : Int) 1 = (M0 : Int) ∧ ((X : Int) == 0) = (pm0 && decide (1 < e)) := by
                  rcases hmask.out with ⟨h1, rfl⟩ | ⟨h1, rfl⟩
                  · exact ⟨HA0.out, by rw [beq_eq_false_iff_ne.2 (by have := HP0.out; omega)]; simp [h1]⟩
                  · exact ⟨HB0.out, by rw [HZ0.out]; simp [h1]⟩
                have hst := sub_step 0 N0 most e nn pm0 V0 he1
                have hv0 := subv_lt 0 N0 e most nn (pm0 && decide (1 < e)) (by decide)
                have hs0bd := sub0_bd 0 N0 e most nn (pm0 && decide (1 < e)) (by omega)
                have hvbd := subv_bd 0 N0 e most nn (pm0 && decide (1 < e)) (by omega)
                have hno := fun h => sub0_no 0 N0 e most nn (pm0 && decide (1 < e)) h
                have hye := fun h => sub0_yes 0 N0 e most h
                generalize (pm0 && decide (1 < e)) = mz at *
                have HNO := hid hno
                have HYE := hid hye
                have HST := hid hst
                have HV0 := hid hv0
                clear hst hno hye hv0 hmask
                generalize subs 0 N0 most nn pm0 (e - 1) = u at *
                generalize subv 0 N0 e most nn mz = sv at *
                obtain ⟨k1, hk1⟩ : ∃ k1, k1 = N0 - e - 1 := ⟨_, rfl⟩
                have hk1l : 2 ≤ k1 := by omega
                have ek1 : (N0 : Int) - (e : Int) - 1 = (k1 : Int) := by omega
                have C1 := fun W => comb2 k1 (by omega) (by omega) W
                have hc1 := cb_le k1 2 (by omega)
                rw [← hk1] at HNO HYE
                have HK1 := hid hk1
                clear hk1
                have hca : (nn = false ∨ mz = false ∨ ¬ 6 ≤ N0 - e) ∨ (nn = true ∧ mz = true ∧ 6 ≤ N0 - e) := by
                  by_cases h6 : 6 ≤ N0 - e
                  · cases nn <;> cases mz <;> simp [h6]
                  · exact .inl (.inr (.inr h6))
                have HS0 : Hid (∃ s0 : Int, s0 = sub0 0 N0 e most nn mz) := hid ⟨_, rfl⟩
                clear HS0
                rcases hca with hca | ⟨rfl, rfl, h6⟩
                · have hse := HNO.out hca
                  have HW1 := hid HV0.out
                  rw [hse] at HW1 hs0bd
                  clear hse HV0 HNO HYE
                  generalize cb k1 2 = c1 at *
                  rcases hca with rfl | rfl | h6
                  · skip
                    obtain ⟨D, hD⟩ : ∃ D, D = N0 - e - 2 := ⟨_, rfl⟩
                    obtain ⟨T, hT⟩ : ∃ T, T = D - most := ⟨_, rfl⟩
                    have hv3 : Hid (sv = (c1 : Int) - ((lsum 1 T : Nat) : Int) * 3) := hid (by rw [hT, hD]; exact HW1.out)
                    have eD : (N0 : Int) - (e : Int) - 2 = (D : Int) := by omega
                    have hDl : D ≤ 20 := by omega
                    have HD := hid hD
                    have HTT := hid hT
                    clear hD hT
                    go_wp2_with (go_at_call 37; refine (C1 _).mono ?_; rintro e1 w1 ⟨rfl, rfl⟩)
                    go_loop [16, 17] (fun lv mx => ∃ t : Nat, t ≤ T ∧ lv = .int .i64 (lsum 1 t : Nat) ∧ mx = .int .i64 ((D : Int) - t)) (fun _ mx => (intOf mx).toNat)
                    case atStart => exact ⟨0, by omega, rfl, by first | (simp; done) | (simp; omega)⟩
                    case round =>
                      obtain ⟨t, ht, rfl, rfl⟩ := hrel
                      have hlb := lsum_le 1 (by omega) t (by have := HTT.out; omega)
                      by_cases htT : t < T
                      · have hgt : (most : Int) < (D : Int) - (t : Int) := by have := HTT.out; omega
                        obtain ⟨k3, hk3⟩ : ∃ k3, k3 = 1 + t := ⟨_, rfl⟩
                        have ek3 : (N0 : Int) - (e : Int) - ((D : Int) - (t : Int)) - 1 = (k3 : Int) := by omega
                        have C3 := fun W => comb1 k3 (by omega) (by have := HTT.out; omega) W
                        have hls := lsum_succ 1 t
                        rw [← hk3] at hls
                        have hlb2 := lsum_le 1 (by omega) (t + 1) (by have := HTT.out; omega)
                        have HLS := hid hls
                        have hc3 : cb k3 1 ≤ 400 := cb_le _ _ (by have := HTT.out; omega)
                        clear hk3 hls
                        generalize cb k3 1 = c3 at *
                        generalize lsum 1 t = l3 at *
                        have htl : t ≤ 20 := by have := HTT.out; omega
                        have hl3 : l3 ≤ 8000 := by omega
                        go_wp2_with (go_at_call 37; refine (C3 _).mono ?_; rintro e3 w3 ⟨rfl, rfl⟩)
                        go_round
                        case rel => exact ⟨t + 1, by omega, by (rw [← HLS.out]) <;> go_num, by go_num⟩
                        case measure => simp [intOf]; omega
                      · obtain rfl : t = T := by omega
                        have hle : ¬ (most : Int) < (D : Int) - (t : Int) := by have := HTT.out; omega
                        have hlT : lsum 1 t ≤ 8000 := by have h9 := HTT.out; omega
                        generalize lsum 1 t = l3 at *
                        go_wp2
                        go_round
                        case rel => exact ⟨e + 1, by omega, by omega, by (rw [← HST.out, hv3.out]) <;> go_num, by go_num, _, rfl, hid (.inr ⟨by omega, rfl⟩)⟩
                        case measure => simp [intOf]; omega
                  · cases nn
                    all_goals
                      obtain ⟨D, hD⟩ : ∃ D, D = N0 - e - 2 := ⟨_, rfl⟩
                      obtain ⟨T, hT⟩ : ∃ T, T = D - most := ⟨_, rfl⟩
                      have hv3 : Hid (sv = (c1 : Int) - ((lsum 1 T : Nat) : Int) * 3) := hid (by rw [hT, hD]; exact HW1.out)
                      have eD : (N0 : Int) - (e : Int) - 2 = (D : Int) := by omega
                      have hDl : D ≤ 20 := by omega
                      have HD := hid hD
                      have HTT := hid hT
                      clear hD hT
                      go_wp2_with (go_at_call 37; refine (C1 _).mono ?_; rintro e1 w1 ⟨rfl, rfl⟩)
                      go_loop [16, 17] (fun lv mx => ∃ t : Nat, t ≤ T ∧ lv = .int .i64 (lsum 1 t : Nat) ∧ mx = .int .i64 ((D : Int) - t)) (fun _ mx => (intOf mx).toNat)
                      case atStart => exact ⟨0, by omega, rfl, by first | (simp; done) | (simp; omega)⟩
                      case round =>
                        obtain ⟨t, ht, rfl, rfl⟩ := hrel
                        have hlb := lsum_le 1 (by omega) t (by have := HTT.out; omega)
                        by_cases htT : t < T
                        · have hgt : (most : Int) < (D : Int) - (t : Int) := by have := HTT.out; omega
                          obtain ⟨k3, hk3⟩ : ∃ k3, k3 = 1 + t := ⟨_, rfl⟩
                          have ek3 : (N0 : Int) - (e : Int) - ((D : Int) - (t : Int)) - 1 = (k3 : Int) := by omega
                          have C3 := fun W => comb1 k3 (by omega) (by have := HTT.out; omega) W
                          have hls := lsum_succ 1 t
                          rw [← hk3] at hls
                          have hlb2 := lsum_le 1 (by omega) (t + 1) (by have := HTT.out; omega)
                          have HLS := hid hls
                          have hc3 : cb k3 1 ≤ 400 := cb_le _ _ (by have := HTT.out; omega)
                          clear hk3 hls
                          generalize cb k3 1 = c3 at *
                          generalize lsum 1 t = l3 at *
                          have htl : t ≤ 20 := by have := HTT.out; omega
                          have hl3 : l3 ≤ 8000 := by omega
                          go_wp2_with (go_at_call 37; refine (C3 _).mono ?_; rintro e3 w3 ⟨rfl, rfl⟩)
                          go_round
                          case rel => exact ⟨t + 1, by omega, by (rw [← HLS.out]) <;> go_num, by go_num⟩
                          case measure => simp [intOf]; omega
                        · obtain rfl : t = T := by omega
                          have hle : ¬ (most : Int) < (D : Int) - (t : Int) := by have := HTT.out; omega
                          have hlT : lsum 1 t ≤ 8000 := by have h9 := HTT.out; omega
                          generalize lsum 1 t = l3 at *
                          go_wp2
                          go_round
                          case rel => exact ⟨e + 1, by omega, by omega, by (rw [← HST.out, hv3.out]) <;> go_num, by go_num, _, rfl, hid (.inr ⟨by omega, rfl⟩)⟩
                          case measure => simp [intOf]; omega
                  · have h62 : ¬ (3 - 0 : Int) ≤ (N0 : Int) - (e : Int) - (3 - 0) := by omega
                    have h63 : ¬ (3 : Int) ≤ (N0 : Int) - (e : Int) - 3 := by omega
                    cases nn <;> cases mz
                    all_goals
                      obtain ⟨D, hD⟩ : ∃ D, D = N0 - e - 2 := ⟨_, rfl⟩
                      obtain ⟨T, hT⟩ : ∃ T, T = D - most := ⟨_, rfl⟩
                      have hv3 : Hid (sv = (c1 : Int) - ((lsum 1 T : Nat) : Int) * 3) := hid (by rw [hT, hD]; exact HW1.out)
                      have eD : (N0 : Int) - (e : Int) - 2 = (D : Int) := by omega
                      have hDl : D ≤ 20 := by omega
                      have HD := hid hD
                      have HTT := hid hT
                      clear hD hT
                      go_wp2_with (go_at_call 37; refine (C1 _).mono ?_; rintro e1 w1 ⟨rfl, rfl⟩)
                      go_loop [16, 17] (fun lv mx => ∃ t : Nat, t ≤ T ∧ lv = .int .i64 (lsum 1 t : Nat) ∧ mx = .int .i64 ((D : Int) - t)) (fun _ mx => (intOf mx).toNat)
                      case atStart => exact ⟨0, by omega, rfl, by first | (simp; done) | (simp; omega)⟩
                      case round =>
                        obtain ⟨t, ht, rfl, rfl⟩ := hrel
                        have hlb := lsum_le 1 (by omega) t (by have := HTT.out; omega)
                        by_cases htT : t < T
                        · have hgt : (most : Int) < (D : Int) - (t : Int) := by have := HTT.out; omega
                          obtain ⟨k3, hk3⟩ : ∃ k3, k3 = 1 + t := ⟨_, rfl⟩
                          have ek3 : (N0 : Int) - (e : Int) - ((D : Int) - (t : Int)) - 1 = (k3 : Int) := by omega
                          have C3 := fun W => comb1 k3 (by omega) (by have := HTT.out; omega) W
                          have hls := lsum_succ 1 t
                          rw [← hk3] at hls
                          have hlb2 := lsum_le 1 (by omega) (t + 1) (by have := HTT.out; omega)
                          have HLS := hid hls
                          have hc3 : cb k3 1 ≤ 400 := cb_le _ _ (by have := HTT.out; omega)
                          clear hk3 hls
                          generalize cb k3 1 = c3 at *
                          generalize lsum 1 t = l3 at *
                          have htl : t ≤ 20 := by have := HTT.out; omega
                          have hl3 : l3 ≤ 8000 := by omega
                          go_wp2_with (go_at_call 37; refine (C3 _).mono ?_; rintro e3 w3 ⟨rfl, rfl⟩)
                          go_round
                          case rel => exact ⟨t + 1, by omega, by (rw [← HLS.out]) <;> go_num, by go_num⟩
                          case measure => simp [intOf]; omega
                        · obtain rfl : t = T := by omega
                          have hle : ¬ (most : Int) < (D : Int) - (t : Int) := by have := HTT.out; omega
                          have hlT : lsum 1 t ≤ 8000 := by have h9 := HTT.out; omega
                          generalize lsum 1 t = l3 at *
                          go_wp2
                          go_round
                          case rel => exact ⟨e + 1, by omega, by omega, by (rw [← HST.out, hv3.out]) <;> go_num, by go_num, _, rfl, hid (.inr ⟨by omega, rfl⟩)⟩
                          case measure => simp [intOf]; omega
                · have hse := HYE.out h6
                  have HW1 := hid HV0.out
                  rw [hse] at HW1 hs0bd
                  clear hse HV0 HNO HYE
                  obtain ⟨k2, hk2⟩ : ∃ k2, k2 = N0 - e - 4 := ⟨_, rfl⟩
                  have ek2 : (N0 : Int) - (e : Int) - 4 = (k2 : Int) := by omega
                  have C2 := fun W => comb2 k2 (by omega) (by omega) W
                  have hc2 := cb_le k2 2 (by omega)
                  rw [← hk2] at HW1 hs0bd
                  have h63 : (3 : Int) ≤ (N0 : Int) - (e : Int) - 3 := by omega
                  clear hk2
                  generalize cb k1 2 = c1 at *
                  generalize cb k2 2 = c2 at *
                  obtain ⟨D, hD⟩ : ∃ D, D = N0 - e - 2 := ⟨_, rfl⟩
                  obtain ⟨T, hT⟩ : ∃ T, T = D - most := ⟨_, rfl⟩
                  have hv3 : Hid (sv = ((c1 : Int) - (c2 : Int)) - ((lsum 1 T : Nat) : Int) * 3) := hid (by rw [hT, hD]; exact HW1.out)
                  have eD : (N0 : Int) - (e : Int) - 2 = (D : Int) := by omega
                  have hDl : D ≤ 20 := by omega
                  have HD := hid hD
                  have HTT := hid hT
                  clear hD hT
                  go_wp2_with (first | (go_at_call 37; ((with_reducible refine (C1 _).mono ?_); rintro e1 w1 ⟨rfl, rfl⟩)) | (go_at_call 37; ((with_reducible refine (C2 _).mono ?_); rintro e1 w1 ⟨rfl, rfl⟩)))
                  go_loop [16, 17] (fun lv mx => ∃ t : Nat, t ≤ T ∧ lv = .int .i64 (lsum 1 t : Nat) ∧ mx = .int .i64 ((D : Int) - t)) (fun _ mx => (intOf mx).toNat)
                  case atStart => exact ⟨0, by omega, rfl, by first | (simp; done) | (simp; omega)⟩
                  case round =>
                    obtain ⟨t, ht, rfl, rfl⟩ := hrel
                    have hlb := lsum_le 1 (by omega) t (by have := HTT.out; omega)
                    by_cases htT : t < T
                    · have hgt : (most : Int) < (D : Int) - (t : Int) := by have := HTT.out; omega
                      obtain ⟨k3, hk3⟩ : ∃ k3, k3 = 1 + t := ⟨_, rfl⟩
                      have ek3 : (N0 : Int) - (e : Int) - ((D : Int) - (t : Int)) - 1 = (k3 : Int) := by omega
                      have C3 := fun W => comb1 k3 (by omega) (by have := HTT.out; omega) W
                      have hls := lsum_succ 1 t
                      rw [← hk3] at hls
                      have hlb2 := lsum_le 1 (by omega) (t + 1) (by have := HTT.out; omega)
                      have HLS := hid hls
                      have hc3 : cb k3 1 ≤ 400 := cb_le _ _ (by have := HTT.out; omega)
                      clear hk3 hls
                      generalize cb k3 1 = c3 at *
                      generalize lsum 1 t = l3 at *
                      have htl : t ≤ 20 := by have := HTT.out; omega
                      have hl3 : l3 ≤ 8000 := by omega
                      go_wp2_with (go_at_call 37; refine (C3 _).mono ?_; rintro e3 w3 ⟨rfl, rfl⟩)
                      go_round
                      case rel => exact ⟨t + 1, by omega, by (rw [← HLS.out]) <;> go_num, by go_num⟩
                      case measure => simp [intOf]; omega
                    · obtain rfl : t = T := by omega
                      have hle : ¬ (most : Int) < (D : Int) - (t : Int) := by have := HTT.out; omega
                      have hlT : lsum 1 t ≤ 8000 := by have h9 := HTT.out; omega
                      generalize lsum 1 t = l3 at *
                      go_wp2
                      go_round
                      case rel => exact ⟨e + 1, by omega, by omega, by (rw [← HST.out, hv3.out]) <;> go_num, by go_num, _, rfl, hid (.inr ⟨by omega, rfl⟩)⟩
                      case measure => simp [intOf]; omega
              · obtain rfl : e = xa := by omega
                have eN : (N0 : Int) - (e : Int) = (N1 : Int) := by have := HN1.out; omega
                have hVV := HV1.out
                have hM : X = M1 := by
                  rcases hmask.out with ⟨h1, rfl⟩ | ⟨h1, rfl⟩
                  · exact HM1a.out h1
                  · exact HM1b.out h1
                have HE := hid hM
                have HE2 := hid hVV
                clear hM hVV hmask
                go_wp2
                go_round
                case rel => exact .inr (.inl ⟨rfl, by rw [← HE2.out], by rw [HE.out], rfl⟩)
                case measure => simp [intOf]
        · as_aux_lemma =>
            have sbd := SB1.out
            go_wp2
            go_loop [10, 11, 14] (fun vv mv ev => ∃ e : Nat, 1 ≤ e ∧ e ≤ xb ∧ vv = .int .i64 (V1 + subs 1 N1 most nn pm1 (e - 1)) ∧ ev = .int .i64 e ∧ ∃ X : Nat, mv = .int .u64 X ∧ Hid ((e = 1 ∧ X = P1) ∨ (1 < e ∧ X = M1))) (fun _ _ ev => 30 - (intOf ev).toNat)
            case atStart => exact ⟨1, by omega, by omega, by simp [subs], rfl, P1, rfl, hid (.inl ⟨rfl, rfl⟩)⟩
            case round =>
              obtain ⟨e, he1, he2, rfl, rfl, X, rfl, hmask⟩ := hrel
              have hsb := SB1.out (e - 1)
              by_cases hex : e < xb
              · have hex2 : (e : Int) < (xb : Int) := by omega
                obtain ⟨hxn, hxz⟩ : bits .andNot .u64 (X : Int) 2 = (M1 : Int) ∧ ((X : Int) == 0) = (pm1 && decide (1 < e)) := by
                  rcases hmask.out with ⟨h1, rfl⟩ | ⟨h1, rfl⟩
                  · exact ⟨HA1.out, by rw [beq_eq_false_iff_ne.2 (by have := HP1.out; omega)]; simp [h1]⟩
                  · exact ⟨HB1.out, by rw [HZ1.out]; simp [h1]⟩
                have hst := sub_step 1 N1 most e nn pm1 V1 he1
                have hv0 := subv_lt 1 N1 e most nn (pm1 && decide (1 < e)) (by decide)
                have hs0bd := sub0_bd 1 N1 e most nn (pm1 && decide (1 < e)) (by omega)
                have hvbd := subv_bd 1 N1 e most nn (pm1 && decide (1 < e)) (by omega)
                have hno := fun h => sub0_no 1 N1 e most nn (pm1 && decide (1 < e)) h
                have hye := fun h => sub0_yes 1 N1 e most h
                generalize (pm1 && decide (1 < e)) = mz at *
                have HNO := hid hno
                have HYE := hid hye
                have HST := hid hst
                have HV0 := hid hv0
                clear hst hno hye hv0 hmask
                generalize subs 1 N1 most nn pm1 (e - 1) = u at *
                generalize subv 1 N1 e most nn mz = sv at *
                obtain ⟨k1, hk1⟩ : ∃ k1, k1 = N1 - e - 1 := ⟨_, rfl⟩
                have hk1l : 1 ≤ k1 := by omega
                have ek1 : (N1 : Int) - (e : Int) - 1 = (k1 : Int) := by omega
                have C1 := fun W => comb1 k1 (by omega) (by omega) W
                have hc1 := cb_le k1 1 (by omega)
                rw [← hk1] at HNO HYE
                have HK1 := hid hk1
                clear hk1
                have hca : (nn = false ∨ mz = false ∨ ¬ 4 ≤ N1 - e) ∨ (nn = true ∧ mz = true ∧ 4 ≤ N1 - e) := by
                  by_cases h6 : 4 ≤ N1 - e
                  · cases nn <;> cases mz <;> simp [h6]
                  · exact .inl (.inr (.inr h6))
                have HS0 : Hid (∃ s0 : Int, s0 = sub0 1 N1 e most nn mz) := hid ⟨_, rfl⟩
                clear HS0
                rcases hca with hca | ⟨rfl, rfl, h6⟩
                · have hse := HNO.out hca
                  have HW1 := hid HV0.out
                  rw [hse] at HW1 hs0bd
                  clear hse HV0 HNO HYE
                  generalize cb k1 1 = c1 at *
                  rcases hca with rfl | rfl | h6
                  · skip
                    obtain ⟨D, hD⟩ : ∃ D, D = N1 - e - 1 := ⟨_, rfl⟩
                    obtain ⟨T, hT⟩ : ∃ T, T = D - most := ⟨_, rfl⟩
                    have hv3 : Hid (sv = (c1 : Int) - ((lsum 0 T : Nat) : Int) * 2) := hid (by rw [hT, hD]; exact HW1.out)
                    have eD : (N1 : Int) - (e : Int) - 1 = (D : Int) := by omega
                    have hDl : D ≤ 20 := by omega
                    obtain rfl : D = k1 := by omega
                    clear eD
                    have HD := hid hD
                    have HTT := hid hT
                    clear hD hT
                    go_wp2_with (go_at_call 37; refine (C1 _).mono ?_; rintro e1 w1 ⟨rfl, rfl⟩)
                    go_loop [16, 17] (fun lv mx => ∃ t : Nat, t ≤ T ∧ lv = .int .i64 (lsum 0 t : Nat) ∧ mx = .int .i64 ((D : Int) - t)) (fun _ mx => (intOf mx).toNat)
                    case atStart => exact ⟨0, by omega, rfl, by first | (simp; done) | (simp; omega)⟩
                    case round =>
                      obtain ⟨t, ht, rfl, rfl⟩ := hrel
                      have hlb := lsum_le 0 (by omega) t (by have := HTT.out; omega)
                      by_cases htT : t < T
                      · have hgt : (most : Int) < (D : Int) - (t : Int) := by have := HTT.out; omega
                        obtain ⟨k3, hk3⟩ : ∃ k3, k3 = 0 + t := ⟨_, rfl⟩
                        have ek3 : (N1 : Int) - (e : Int) - ((D : Int) - (t : Int)) - 1 = (k3 : Int) := by omega
                        have C3 := fun W => comb0 k3  (by have := HTT.out; omega) W
                        have hls := lsum_succ 0 t
                        rw [← hk3] at hls
                        have hlb2 := lsum_le 0 (by omega) (t + 1) (by have := HTT.out; omega)
                        have HLS := hid hls
                        have hc3 : cb k3 0 ≤ 400 := cb_le _ _ (by have := HTT.out; omega)
                        clear hk3 hls
                        generalize cb k3 0 = c3 at *
                        generalize lsum 0 t = l3 at *
                        have htl : t ≤ 20 := by have := HTT.out; omega
                        have hl3 : l3 ≤ 8000 := by omega
                        go_wp2_with (go_at_call 37; refine (C3 _).mono ?_; rintro e3 w3 ⟨rfl, rfl⟩)
                        go_round
                        case rel => exact ⟨t + 1, by omega, by (rw [← HLS.out]) <;> go_num, by go_num⟩
                        case measure => simp [intOf]; omega
                      · obtain rfl : t = T := by omega
                        have hle : ¬ (most : Int) < (D : Int) - (t : Int) := by have := HTT.out; omega
                        have hlT : lsum 0 t ≤ 8000 := by have h9 := HTT.out; omega
                        generalize lsum 0 t = l3 at *
                        go_wp2
                        go_round
                        case rel => exact ⟨e + 1, by omega, by omega, by (rw [← HST.out, hv3.out]) <;> go_num, by go_num, _, rfl, hid (.inr ⟨by omega, rfl⟩)⟩
                        case measure => simp [intOf]; omega
                  · cases nn
                    all_goals
                      obtain ⟨D, hD⟩ : ∃ D, D = N1 - e - 1 := ⟨_, rfl⟩
                      obtain ⟨T, hT⟩ : ∃ T, T = D - most := ⟨_, rfl⟩
                      have hv3 : Hid (sv = (c1 : Int) - ((lsum 0 T : Nat) : Int) * 2) := hid (by rw [hT, hD]; exact HW1.out)
                      have eD : (N1 : Int) - (e : Int) - 1 = (D : Int) := by omega
                      have hDl : D ≤ 20 := by omega
                      obtain rfl : D = k1 := by omega
                      clear eD
                      have HD := hid hD
                      have HTT := hid hT
                      clear hD hT
                      go_wp2_with (go_at_call 37; refine (C1 _).mono ?_; rintro e1 w1 ⟨rfl, rfl⟩)
                      go_loop [16, 17] (fun lv mx => ∃ t : Nat, t ≤ T ∧ lv = .int .i64 (lsum 0 t : Nat) ∧ mx = .int .i64 ((D : Int) - t)) (fun _ mx => (intOf mx).toNat)
                      case atStart => exact ⟨0, by omega, rfl, by first | (simp; done) | (simp; omega)⟩
                      case round =>
                        obtain ⟨t, ht, rfl, rfl⟩ := hrel
                        have hlb := lsum_le 0 (by omega) t (by have := HTT.out; omega)
                        by_cases htT : t < T
                        · have hgt : (most : Int) < (D : Int) - (t : Int) := by have := HTT.out; omega
                          obtain ⟨k3, hk3⟩ : ∃ k3, k3 = 0 + t := ⟨_, rfl⟩
                          have ek3 : (N1 : Int) - (e : Int) - ((D : Int) - (t : Int)) - 1 = (k3 : Int) := by omega
                          have C3 := fun W => comb0 k3  (by have := HTT.out; omega) W
                          have hls := lsum_succ 0 t
                          rw [← hk3] at hls
                          have hlb2 := lsum_le 0 (by omega) (t + 1) (by have := HTT.out; omega)
                          have HLS := hid hls
                          have hc3 : cb k3 0 ≤ 400 := cb_le _ _ (by have := HTT.out; omega)
                          clear hk3 hls
                          generalize cb k3 0 = c3 at *
                          generalize lsum 0 t = l3 at *
                          have htl : t ≤ 20 := by have := HTT.out; omega
                          have hl3 : l3 ≤ 8000 := by omega
                          go_wp2_with (go_at_call 37; refine (C3 _).mono ?_; rintro e3 w3 ⟨rfl, rfl⟩)
                          go_round
                          case rel => exact ⟨t + 1, by omega, by (rw [← HLS.out]) <;> go_num, by go_num⟩
                          case measure => simp [intOf]; omega
                        · obtain rfl : t = T := by omega
                          have hle : ¬ (most : Int) < (D : Int) - (t : Int) := by have := HTT.out; omega
                          have hlT : lsum 0 t ≤ 8000 := by have h9 := HTT.out; omega
                          generalize lsum 0 t = l3 at *
                          go_wp2
                          go_round
                          case rel => exact ⟨e + 1, by omega, by omega, by (rw [← HST.out, hv3.out]) <;> go_num, by go_num, _, rfl, hid (.inr ⟨by omega, rfl⟩)⟩
                          case measure => simp [intOf]; omega
                  · have h62 : ¬ (3 - 1 : Int) ≤ (N1 : Int) - (e : Int) - (3 - 1) := by omega
                    have h63 : ¬ (2 : Int) ≤ (N1 : Int) - (e : Int) - 2 := by omega
                    cases nn <;> cases mz
                    all_goals
                      obtain ⟨D, hD⟩ : ∃ D, D = N1 - e - 1 := ⟨_, rfl⟩
                      obtain ⟨T, hT⟩ : ∃ T, T = D - most := ⟨_, rfl⟩
                      have hv3 : Hid (sv = (c1 : Int) - ((lsum 0 T : Nat) : Int) * 2) := hid (by rw [hT, hD]; exact HW1.out)
                      have eD : (N1 : Int) - (e : Int) - 1 = (D : Int) := by omega
                      have hDl : D ≤ 20 := by omega
                      obtain rfl : D = k1 := by omega
                      clear eD
                      have HD := hid hD
                      have HTT := hid hT
                      clear hD hT
                      go_wp2_with (go_at_call 37; refine (C1 _).mono ?_; rintro e1 w1 ⟨rfl, rfl⟩)
                      go_loop [16, 17] (fun lv mx => ∃ t : Nat, t ≤ T ∧ lv = .int .i64 (lsum 0 t : Nat) ∧ mx = .int .i64 ((D : Int) - t)) (fun _ mx => (intOf mx).toNat)
                      case atStart => exact ⟨0, by omega, rfl, by first | (simp; done) | (simp; omega)⟩
                      case round =>
                        obtain ⟨t, ht, rfl, rfl⟩ := hrel
                        have hlb := lsum_le 0 (by omega) t (by have := HTT.out; omega)
                        by_cases htT : t < T
                        · have hgt : (most : Int) < (D : Int) - (t : Int) := by have := HTT.out; omega
                          obtain ⟨k3, hk3⟩ : ∃ k3, k3 = 0 + t := ⟨_, rfl⟩
                          have ek3 : (N1 : Int) - (e : Int) - ((D : Int) - (t : Int)) - 1 = (k3 : Int) := by omega
                          have C3 := fun W => comb0 k3  (by have := HTT.out; omega) W
                          have hls := lsum_succ 0 t
                          rw [← hk3] at hls
                          have hlb2 := lsum_le 0 (by omega) (t + 1) (by have := HTT.out; omega)
                          have HLS := hid hls
                          have hc3 : cb k3 0 ≤ 400 := cb_le _ _ (by have := HTT.out; omega)
                          clear hk3 hls
                          generalize cb k3 0 = c3 at *
                          generalize lsum 0 t = l3 at *
                          have htl : t ≤ 20 := by have := HTT.out; omega
                          have hl3 : l3 ≤ 8000 := by omega
                          go_wp2_with (go_at_call 37; refine (C3 _).mono ?_; rintro e3 w3 ⟨rfl, rfl⟩)
                          go_round
                          case rel => exact ⟨t + 1, by omega, by (rw [← HLS.out]) <;> go_num, by go_num⟩
                          case measure => simp [intOf]; omega
                        · obtain rfl : t = T := by omega
                          have hle : ¬ (most : Int) < (D : Int) - (t : Int) := by have := HTT.out; omega
                          have hlT : lsum 0 t ≤ 8000 := by have h9 := HTT.out; omega
                          generalize lsum 0 t = l3 at *
                          go_wp2
                          go_round
                          case rel => exact ⟨e + 1, by omega, by omega, by (rw [← HST.out, hv3.out]) <;> go_num, by go_num, _, rfl, hid (.inr ⟨by omega, rfl⟩)⟩
                          case measure => simp [intOf]; omega
                · have hse := HYE.out h6
                  have HW1 := hid HV0.out
                  rw [hse] at HW1 hs0bd
                  clear hse HV0 HNO HYE
                  obtain ⟨k2, hk2⟩ : ∃ k2, k2 = N1 - e - 3 := ⟨_, rfl⟩
                  have ek2 : (N1 : Int) - (e : Int) - 3 = (k2 : Int) := by omega
                  have C2 := fun W => comb1 k2 (by omega) (by omega) W
                  have hc2 := cb_le k2 1 (by omega)
                  rw [← hk2] at HW1 hs0bd
                  have h63 : (2 : Int) ≤ (N1 : Int) - (e : Int) - 2 := by omega
                  clear hk2
                  generalize cb k1 1 = c1 at *
                  generalize cb k2 1 = c2 at *
                  obtain ⟨D, hD⟩ : ∃ D, D = N1 - e - 1 := ⟨_, rfl⟩
                  obtain ⟨T, hT⟩ : ∃ T, T = D - most := ⟨_, rfl⟩
                  have hv3 : Hid (sv = ((c1 : Int) - (c2 : Int)) - ((lsum 0 T : Nat) : Int) * 2) := hid (by rw [hT, hD]; exact HW1.out)
                  have eD : (N1 : Int) - (e : Int) - 1 = (D : Int) := by omega
                  have hDl : D ≤ 20 := by omega
                  obtain rfl : D = k1 := by omega
                  clear eD
                  have HD := hid hD
                  have HTT := hid hT
                  clear hD hT
                  go_wp2_with (first | (go_at_call 37; ((with_reducible refine (C1 _).mono ?_); rintro e1 w1 ⟨rfl, rfl⟩)) | (go_at_call 37; ((with_reducible refine (C2 _).mono ?_); rintro e1 w1 ⟨rfl, rfl⟩)))
                  go_loop [16, 17] (fun lv mx => ∃ t : Nat, t ≤ T ∧ lv = .int .i64 (lsum 0 t : Nat) ∧ mx = .int .i64 ((D : Int) - t)) (fun _ mx => (intOf mx).toNat)
                  case atStart => exact ⟨0, by omega, rfl, by first | (simp; done) | (simp; omega)⟩
                  case round =>
                    obtain ⟨t, ht, rfl, rfl⟩ := hrel
                    have hlb := lsum_le 0 (by omega) t (by have := HTT.out; omega)
                    by_cases htT : t < T
                    · have hgt : (most : Int) < (D : Int) - (t : Int) := by have := HTT.out; omega
                      obtain ⟨k3, hk3⟩ : ∃ k3, k3 = 0 + t := ⟨_, rfl⟩
                      have ek3 : (N1 : Int) - (e : Int) - ((D : Int) - (t : Int)) - 1 = (k3 : Int) := by omega
                      have C3 := fun W => comb0 k3  (by have := HTT.out; omega) W
                      have hls := lsum_succ 0 t
                      rw [← hk3] at hls
                      have hlb2 := lsum_le 0 (by omega) (t + 1) (by have := HTT.out; omega)
                      have HLS := hid hls
                      have hc3 : cb k3 0 ≤ 400 := cb_le _ _ (by have := HTT.out; omega)
                      clear hk3 hls
                      generalize cb k3 0 = c3 at *
                      generalize lsum 0 t = l3 at *
                      have htl : t ≤ 20 := by have := HTT.out; omega
                      have hl3 : l3 ≤ 8000 := by omega
                      go_wp2_with (go_at_call 37; refine (C3 _).mono ?_; rintro e3 w3 ⟨rfl, rfl⟩)
                      go_round
                      case rel => exact ⟨t + 1, by omega, by (rw [← HLS.out]) <;> go_num, by go_num⟩
                      case measure => simp [intOf]; omega
                    · obtain rfl : t = T := by omega
                      have hle : ¬ (most : Int) < (D : Int) - (t : Int) := by have := HTT.out; omega
                      have hlT : lsum 0 t ≤ 8000 := by have h9 := HTT.out; omega
                      generalize lsum 0 t = l3 at *
                      go_wp2
                      go_round
                      case rel => exact ⟨e + 1, by omega, by omega, by (rw [← HST.out, hv3.out]) <;> go_num, by go_num, _, rfl, hid (.inr ⟨by omega, rfl⟩)⟩
                      case measure => simp [intOf]; omega
              · obtain rfl : e = xb := by omega
                have eN : (N1 : Int) - (e : Int) = (N2 : Int) := by have := HN2.out; omega
                have hVV := HV2.out
                have hM : X = M2 := by
                  rcases hmask.out with ⟨h1, rfl⟩ | ⟨h1, rfl⟩
                  · exact HM2a.out h1
                  · exact HM2b.out h1
                have HE := hid hM
                have HE2 := hid hVV
                clear hM hVV hmask
                go_wp2
                go_round
                case rel => exact .inr (.inr (.inl ⟨rfl, by rw [← HE2.out], by rw [HE.out], rfl⟩))
                case measure => simp [intOf]
        · as_aux_lemma =>
            have sbd := SB2.out
            go_wp2
            go_loop [10, 11, 14] (fun vv mv ev => ∃ e : Nat, 1 ≤ e ∧ e ≤ xc ∧ vv = .int .i64 (V2 + subs 2 N2 most nn pm2 (e - 1)) ∧ ev = .int .i64 e ∧ ∃ X : Nat, mv = .int .u64 X ∧ Hid ((e = 1 ∧ X = P2) ∨ (1 < e ∧ X = M2))) (fun _ _ ev => 30 - (intOf ev).toNat)
            case atStart => exact ⟨1, by omega, by omega, by simp [subs], rfl, P2, rfl, hid (.inl ⟨rfl, rfl⟩)⟩
            case round =>
              obtain ⟨e, he1, he2, rfl, rfl, X, rfl, hmask⟩ := hrel
              have hsb := SB2.out (e - 1)
              by_cases hex : e < xc
              · have hex2 : (e : Int) < (xc : Int) := by omega
                obtain ⟨hxn, hxz⟩ : bits .andNot .u64 (X : Int) 4 = (M2 : Int) ∧ ((X : Int) == 0) = (pm2 && decide (1 < e)) := by
                  rcases hmask.out with ⟨h1, rfl⟩ | ⟨h1, rfl⟩
                  · exact ⟨HA2.out, by rw [beq_eq_false_iff_ne.2 (by have := HP2.out; omega)]; simp [h1]⟩
                  · exact ⟨HB2.out, by rw [HZ2.out]; simp [h1]⟩
                have hst := sub_step 2 N2 most e nn pm2 V2 he1
                have hv0 := subv_2 N2 e most nn (pm2 && decide (1 < e))
                have hs0bd := sub0_bd 2 N2 e most nn (pm2 && decide (1 < e)) (by omega)
                have hvbd := subv_bd 2 N2 e most nn (pm2 && decide (1 < e)) (by omega)
                have hno := fun h => sub0_no 2 N2 e most nn (pm2 && decide (1 < e)) h
                have hye := fun h => sub0_yes 2 N2 e most h
                generalize (pm2 && decide (1 < e)) = mz at *
                have HNO := hid hno
                have HYE := hid hye
                have HST := hid hst
                have HV0 := hid hv0
                clear hst hno hye hv0 hmask
                generalize subs 2 N2 most nn pm2 (e - 1) = u at *
                generalize subv 2 N2 e most nn mz = sv at *
                obtain ⟨k1, hk1⟩ : ∃ k1, k1 = N2 - e - 1 := ⟨_, rfl⟩
                have hk1l : 0 ≤ k1 := by omega
                have ek1 : (N2 : Int) - (e : Int) - 1 = (k1 : Int) := by omega
                have C1 := fun W => comb0 k1  (by omega) W
                have hc1 := cb_le k1 0 (by omega)
                rw [← hk1] at HNO HYE
                have HK1 := hid hk1
                clear hk1
                have hca : (nn = false ∨ mz = false ∨ ¬ 2 ≤ N2 - e) ∨ (nn = true ∧ mz = true ∧ 2 ≤ N2 - e) := by
                  by_cases h6 : 2 ≤ N2 - e
                  · cases nn <;> cases mz <;> simp [h6]
                  · exact .inl (.inr (.inr h6))
                have HS0 : Hid (∃ s0 : Int, s0 = sub0 2 N2 e most nn mz) := hid ⟨_, rfl⟩
                clear HS0
                rcases hca with hca | ⟨rfl, rfl, h6⟩
                · have hse := HNO.out hca
                  have HW1 := hid HV0.out
                  rw [hse] at HW1 hs0bd
                  clear hse HV0 HNO HYE
                  generalize cb k1 0 = c1 at *
                  rcases hca with rfl | rfl | h6
                  · skip
                    have hv3 : Hid (sv = (c1 : Int) - if most < N2 - e then 1 else 0) := hid HW1.out
                    by_cases hmo : most < N2 - e
                    · have hmo2 : (most : Int) < (N2 : Int) - (e : Int) := by omega
                      have HV4 := hid hv3.out
                      rw [if_pos hmo] at HV4
                      go_wp2_with (go_at_call 37; refine (C1 _).mono ?_; rintro e1 w1 ⟨rfl, rfl⟩)
                      all_goals
                        go_round
                        case rel => exact ⟨e + 1, by omega, by omega, by (rw [← HST.out, HV4.out]) <;> go_num, by go_num, _, rfl, hid (.inr ⟨by omega, rfl⟩)⟩
                        case measure => simp [intOf]; omega
                    · have hmo2 : ¬ (most : Int) < (N2 : Int) - (e : Int) := by omega
                      have HV4 := hid hv3.out
                      rw [if_neg hmo] at HV4
                      go_wp2_with (go_at_call 37; refine (C1 _).mono ?_; rintro e1 w1 ⟨rfl, rfl⟩)
                      all_goals
                        go_round
                        case rel => exact ⟨e + 1, by omega, by omega, by (rw [← HST.out, HV4.out]) <;> go_num, by go_num, _, rfl, hid (.inr ⟨by omega, rfl⟩)⟩
                        case measure => simp [intOf]; omega
                  · cases nn
                    all_goals
                      have hv3 : Hid (sv = (c1 : Int) - if most < N2 - e then 1 else 0) := hid HW1.out
                      by_cases hmo : most < N2 - e
                      · have hmo2 : (most : Int) < (N2 : Int) - (e : Int) := by omega
                        have HV4 := hid hv3.out
                        rw [if_pos hmo] at HV4
                        go_wp2_with (go_at_call 37; refine (C1 _).mono ?_; rintro e1 w1 ⟨rfl, rfl⟩)
                        all_goals
                          go_round
                          case rel => exact ⟨e + 1, by omega, by omega, by (rw [← HST.out, HV4.out]) <;> go_num, by go_num, _, rfl, hid (.inr ⟨by omega, rfl⟩)⟩
                          case measure => simp [intOf]; omega
                      · have hmo2 : ¬ (most : Int) < (N2 : Int) - (e : Int) := by omega
                        have HV4 := hid hv3.out
                        rw [if_neg hmo] at HV4
                        go_wp2_with (go_at_call 37; refine (C1 _).mono ?_; rintro e1 w1 ⟨rfl, rfl⟩)
                        all_goals
                          go_round
                          case rel => exact ⟨e + 1, by omega, by omega, by (rw [← HST.out, HV4.out]) <;> go_num, by go_num, _, rfl, hid (.inr ⟨by omega, rfl⟩)⟩
                          case measure => simp [intOf]; omega
                  · have h62 : ¬ (3 - 2 : Int) ≤ (N2 : Int) - (e : Int) - (3 - 2) := by omega
                    have h63 : ¬ (1 : Int) ≤ (N2 : Int) - (e : Int) - 1 := by omega
                    cases nn <;> cases mz
                    all_goals
                      have hv3 : Hid (sv = (c1 : Int) - if most < N2 - e then 1 else 0) := hid HW1.out
                      by_cases hmo : most < N2 - e
                      · have hmo2 : (most : Int) < (N2 : Int) - (e : Int) := by omega
                        have HV4 := hid hv3.out
                        rw [if_pos hmo] at HV4
                        go_wp2_with (go_at_call 37; refine (C1 _).mono ?_; rintro e1 w1 ⟨rfl, rfl⟩)
                        all_goals
                          go_round
                          case rel => exact ⟨e + 1, by omega, by omega, by (rw [← HST.out, HV4.out]) <;> go_num, by go_num, _, rfl, hid (.inr ⟨by omega, rfl⟩)⟩
                          case measure => simp [intOf]; omega
                      · have hmo2 : ¬ (most : Int) < (N2 : Int) - (e : Int) := by omega
                        have HV4 := hid hv3.out
                        rw [if_neg hmo] at HV4
                        go_wp2_with (go_at_call 37; refine (C1 _).mono ?_; rintro e1 w1 ⟨rfl, rfl⟩)
                        all_goals
                          go_round
                          case rel => exact ⟨e + 1, by omega, by omega, by (rw [← HST.out, HV4.out]) <;> go_num, by go_num, _, rfl, hid (.inr ⟨by omega, rfl⟩)⟩
                          case measure => simp [intOf]; omega
                · have hse := HYE.out h6
                  have HW1 := hid HV0.out
                  rw [hse] at HW1 hs0bd
                  clear hse HV0 HNO HYE
                  obtain ⟨k2, hk2⟩ : ∃ k2, k2 = N2 - e - 2 := ⟨_, rfl⟩
                  have ek2 : (N2 : Int) - (e : Int) - 2 = (k2 : Int) := by omega
                  have C2 := fun W => comb0 k2  (by omega) W
                  have hc2 := cb_le k2 0 (by omega)
                  rw [← hk2] at HW1 hs0bd
                  have h63 : (1 : Int) ≤ (N2 : Int) - (e : Int) - 1 := by omega
                  clear hk2
                  generalize cb k1 0 = c1 at *
                  generalize cb k2 0 = c2 at *
                  have hv3 : Hid (sv = ((c1 : Int) - (c2 : Int)) - if most < N2 - e then 1 else 0) := hid HW1.out
                  by_cases hmo : most < N2 - e
                  · have hmo2 : (most : Int) < (N2 : Int) - (e : Int) := by omega
                    have HV4 := hid hv3.out
                    rw [if_pos hmo] at HV4
                    go_wp2_with (first | (go_at_call 37; ((with_reducible refine (C1 _).mono ?_); rintro e1 w1 ⟨rfl, rfl⟩)) | (go_at_call 37; ((with_reducible refine (C2 _).mono ?_); rintro e1 w1 ⟨rfl, rfl⟩)))
                    all_goals
                      go_round
                      case rel => exact ⟨e + 1, by omega, by omega, by (rw [← HST.out, HV4.out]) <;> go_num, by go_num, _, rfl, hid (.inr ⟨by omega, rfl⟩)⟩
                      case measure => simp [intOf]; omega
                  · have hmo2 : ¬ (most : Int) < (N2 : Int) - (e : Int) := by omega
                    have HV4 := hid hv3.out
                    rw [if_neg hmo] at HV4
                    go_wp2_with (first | (go_at_call 37; ((with_reducible refine (C1 _).mono ?_); rintro e1 w1 ⟨rfl, rfl⟩)) | (go_at_call 37; ((with_reducible refine (C2 _).mono ?_); rintro e1 w1 ⟨rfl, rfl⟩)))
                    all_goals
                      go_round
                      case rel => exact ⟨e + 1, by omega, by omega, by (rw [← HST.out, HV4.out]) <;> go_num, by go_num, _, rfl, hid (.inr ⟨by omega, rfl⟩)⟩
                      case measure => simp [intOf]; omega
              · obtain rfl : e = xc := by omega
                have HE2 := hid HV3.out
                clear hmask
                go_wp2
                go_round
                case rel => exact .inr (.inr (.inr ⟨_, X, rfl, by rw [← HE2.out], rfl, rfl⟩))
                case measure => simp [intOf]
        · go_wp2
          go_ret
          exact ⟨rfl, rfl⟩
end Go.Proofs.Ytifegijnhlbedaa
