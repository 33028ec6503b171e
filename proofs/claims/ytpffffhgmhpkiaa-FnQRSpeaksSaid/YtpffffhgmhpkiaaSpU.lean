/- QR codes: laws.qrSegments. -/
import Derived.Test.YtpffffhgmhpkiaaSpT
namespace Go.Proofs.Ytpffffhgmhpkiaa
open Go.RowKit
set_option linter.unusedVariables false
set_option linter.unusedSimpArgs false

theorem ownsRow_below {w w' : World} {B C n sz : Nat} {e : TypeId} {v : Value} {xs : List Value} (h : w.ownsRow B e sz v n xs) (hb : Below C w w') (hC : ∀ k, v.ownBlock = some k → k < C) : w'.ownsRow B e sz v n xs := by
  refine ⟨h.1, ?_⟩
  rcases h.2 with h2 | ⟨g, cap, cur, hv, hg, hh, r⟩
  · exact .inl h2
  · exact .inr ⟨g, cap, cur, hv, hg, by rw [hb.block g (hC g (by rw [hv]; rfl))]; exact hh, r⟩
theorem kp_below {B C q : Nat} {w w' : World} (h : Kp B q w w') (hC : C ≤ B) (hq : C ≤ q) : Below C w w' := h.toBelow hC hq
def SegsOut (w : World) (e : Ending) (w' : World) : Prop :=
  ∃ A n c S, e = .returned (.slice A n c) ∧ SegM w' A n S ∧ S.length ≤ 4 ∧ (∀ x ∈ S, SegOk x ∧ Prn x.2) ∧ Below w.heap.size w w'
set_option maxRecDepth 20000 in
set_option maxHeartbeats 16000000 in
theorem segsQ (l : List (Int × List Nat)) (A : Option Addr) (n c : Nat) (w : World) (hM : SegI w A n l) (hn : n ≤ 2147483647) (hl : ∀ x ∈ l, x.2.length ≤ 2147483647) (hz : ∀ x ∈ l, -9223372036854775808 ≤ x.1 ∧ x.1 ≤ 9223372036854775807) (hb : ∀ x ∈ l, ∀ c ∈ x.2, c < 256) :
    Calls Try.prog 21 #[.slice A n c, .int .i64 4, .int .i64 200] w (SegsOut w) := by
  obtain ⟨i5, gi, gz0, gz1, gz2⟩ := info_of info5
  obtain ⟨i97, yi, yz0, yz1, yz2⟩ := info_of2' info97
  have HM := hid hM
  have HN := hid hM.1
  have HLl := hid hl
  have HZ := hid hz
  have HBy := hid hb
  obtain ⟨B, hB⟩ : ∃ B, B = w.heap.size := ⟨_, rfl⟩
  have HBe := hid hB
  clear hM hl hz hb hB
  go_enter Try.func21, Try.ntmps21
  go_wp2_with fail
  go_loopw [7, 15] (fun ov iv wr => ∃ (i : Nat) (T : List (Nat × List Nat)), i ≤ n ∧ iv = .int .i64 (i : Nat) ∧ T.length ≤ 4 ∧ Hid (∀ x ∈ T, SegOk x ∧ Prn x.2) ∧ Hid (SegsSt wr B ov T) ∧ Hid (Below w.heap.size w wr)) (fun _ iv _ => n - (intOf iv).toNat)
  case atStart => exact ⟨0, [], by omega, rfl, by simp, hid (fun x hx => by simp at hx), hid ⟨[], World.ownsRow_nil _ _ _ _, rfl, fun i hi => by simp at hi⟩, hid (Below.refl _ _)⟩
  case round =>
    obtain ⟨i, T, hi, rfl, hT4, HTO, HSS, HB⟩ := hrel
    have hbr : B ≤ wr.heap.size := by have := HB.out.size; have := HBe.out; omega
    obtain ⟨A7, c7, hv7⟩ := HSS.out.form
    obtain ⟨tl, htl⟩ : ∃ tl, tl = T.length := ⟨_, rfl⟩
    rw [← htl] at hv7 hT4
    subst hv7
    have HTL := hid htl
    by_cases hlt : i < n
    · have hlt' : (i : Int) < (n : Int) := by omega
      obtain ⟨b, o, hAe, hbl0, hcc⟩ := HM.out.2 (by omega)
      obtain ⟨R, cR, a0, a1', a2', a3⟩ := hcc i hlt
      have a1 := (HB.out.cell (p := ⟨b, o + i * 2, none⟩) hbl0).trans a1'
      have a2 := (HB.out.cell (p := ⟨b, o + i * 2 + 1, none⟩) hbl0).trans a2'
      have hbl := Nat.lt_of_lt_of_le hbl0 HB.out.size
      have hiS : i < l.length := by rw [HN.out]; exact hlt
      have hmem : l.getD i (0, []) ∈ l := by rw [List.getD, List.getElem?_eq_getElem hiS]; exact List.getElem_mem hiS
      obtain ⟨z1, z2⟩ := HZ.out _ hmem
      have hb256 := HBy.out _ hmem
      have hlen := HLl.out _ hmem
      subst hAe
      generalize (l.getD i (0, [])).1 = m at *
      obtain ⟨s, hs⟩ : ∃ s, s = (l.getD i (0, [])).2 := ⟨_, rfl⟩
      rw [← hs] at a0 a2 a3 hb256 hlen
      obtain ⟨k, hk⟩ : ∃ k, k = s.length := ⟨_, rfl⟩
      rw [← hk] at a0 a2 a3 hlen
      have HK := hid hk
      have HR0 := hid a3
      have HBS := hid hb256
      clear hmem hcc hk a3 a1' a2' hs hb256 htl
      by_cases h4 : tl = 4
      · subst h4
        have HB1 := hid (HB.out.alloc HB.out.size (.cells #[.int .i64 m, .slice R k cR] 97))
        have HSM := hid (show SegM (wr.alloc (.cells #[.int .i64 m, .slice R k cR] 97)) A7 4 T from (HSS.out.seg HTL.out).below ((Below.refl _ _).alloc (Nat.le_refl _) _))
        go_wp2_with fail
        go_ret
        exact ⟨A7, 4, c7, T, rfl, HSM.out, by rw [← HTL.out]; exact hT4, HTO.out, HB1.out⟩
      · have h4' : ((tl : Int) == 4) = false := by simp; omega
        obtain ⟨t, ht⟩ : ∃ t, t = m.tmod 3 := ⟨_, rfl⟩
        have ht1 : -3 < t ∧ t < 3 := by
          rw [ht]
          have h1 := Int.tmod_lt_of_pos m (show (0 : Int) < 3 by decide)
          have h2 := Int.lt_tmod_of_pos m (show (0 : Int) < 3 by decide)
          exact ⟨h2, h1⟩
        obtain ⟨q, hq⟩ : ∃ q : Nat, (q : Int) = (t + 3) % 3 := ⟨((t + 3) % 3).toNat, by omega⟩
        have hm3 : m.tmod 3 = t := ht.symm
        have hq2 : (t + 3) % 3 = (q : Int) := hq.symm
        have hq3 : (t + 3).tmod 3 = (q : Int) := by rw [Int.tmod_eq_emod_of_nonneg (by omega)]; exact hq2
        have hql : q = 0 ∨ q = 1 ∨ q = 2 := by omega
        rcases hql with rfl | rfl | rfl
        · have ix : ∀ w, (Instr.index 99 (.agg #[.int .i64 1, .int .i64 2, .int .i64 4]) (.int .i64 0)).run Try.prog w = .ok (.int .i64 1) w := fun _ => by kernel_rfl
          obtain ⟨b10, h10⟩ : ∃ b10, b10 = wr.heap.size + 1 := ⟨_, rfl⟩
          have H10 := hid h10
          have HA10 := hid (show Arr ((wr.alloc (.cells #[.int .i64 m, .slice R k cR] 97)).alloc (.cells #[.int .i64 1, .slice none 0 0] 97)) b10 97 [.int .i64 ((1 : Nat) : Int), .slice none 0 0] from by
            have := Arr.of_new (wr.alloc (.cells #[.int .i64 m, .slice R k cR] 97)) 97 #[.int .i64 1, .slice none 0 0]
            rw [World.size_alloc] at this
            rw [h10]; exact this)
          have hsz2 : ((wr.alloc (.cells #[.int .i64 m, .slice R k cR] 97)).alloc (.cells #[.int .i64 1, .slice none 0 0] 97)).heap.size = b10 + 1 := by simp; omega
          have HR2 := hid (HR0.out.below (HB.out.trans (((Below.refl w.heap.size wr).alloc HB.out.size (.cells #[.int .i64 m, .slice R k cR] 97)).alloc (by have := HB.out.size; simp; omega) (.cells #[.int .i64 1, .slice none 0 0] 97))))
          have HRb := hid (show 0 < k → ∀ a, R = some a → a.block < w.heap.size from fun h0 a ha => by
            obtain ⟨b', o', e', hb', _⟩ := HR0.out.2 h0
            rw [e'] at ha; injection ha with ha; subst ha; exact hb')
          have htl3 : tl ≤ 3 := by omega
          clear h4 hq ht
          go_wp2_with fail
          rw [← h10]
          obtain ⟨W2, hW2⟩ : ∃ W2, W2 = (wr.alloc (.cells #[.int .i64 m, .slice R k cR] 97)).alloc (.cells #[.int .i64 1, .slice none 0 0] 97) := ⟨_, rfl⟩
          rw [← hW2] at HA10 hsz2 HR2 ⊢
          have HW2 := hid hW2
          clear hW2 h10 a1 a2 hbl hm3 hq2 hq3 ix
          obtain ⟨wo, hwo⟩ : ∃ wo, wo = wr := ⟨_, rfl⟩
          subst hwo
          go_loopw [34] (fun jv wr2 => ∃ (j : Nat) (tv : Value), j ≤ k ∧ j ≤ 200 ∧ jv = .int .i64 (j : Nat) ∧ Hid (Arr wr2 b10 97 [.int .i64 ((1 : Nat) : Int), tv]) ∧ Hid (Own wr2 (b10 + 1) 5 tv (u8s ((turned 1 s).take j))) ∧ Hid (Kp (b10 + 1) b10 W2 wr2)) (fun jv _ => k - (intOf jv).toNat)
          case atStart => exact ⟨0, .slice none 0 0, by omega, by omega, rfl, HA10, hid (by simpa [u8s] using Own.nil W2 (b10 + 1) 5), hid (Kp.refl _ _ _)⟩
          case round =>
            obtain ⟨j, tv, hj1, hj2, rfl, HA, HOt, HKp⟩ := hrel
            have HBA := hid (show tv.ownBlock ≠ some b10 from fun e => by have := (HOt.out.lt b10 e).1; omega)
            by_cases hjk : j < k
            · have hjk' : (j : Int) < (k : Int) := by omega
              obtain ⟨rb, ro, rfl, hrb, hcr⟩ := (HKp.out.rd HR2.out (fun a ha => by have := HRb.out (by omega) a ha; have := H10.out; have := HB.out.size; omega)).2 (by omega)
              have hjs : j < s.length := by rw [← HK.out]; exact hjk
              have d0 := hcr j (by rw [u8s_len]; exact hjs)
              simp only [u8s, List.getElem_map] at d0
              have hx256 := HBS.out _ (List.getElem_mem hjs)
              by_cases h200 : j = 200
              · have h200' : ((j : Int) == 200) = true := by simp; omega
                have HJX := hid (show j = 200 ∨ j = k from .inl h200)
                generalize s[j]'hjs = x0 at d0 hx256
                clear hjk h200 hcr hjs
                have HTt := hid (show (turned 1 s).take j = turned 1 s from List.take_of_length_le (by simp [turned]; have := HK.out; have := HJX.out; omega))
                have hOt := HOt.out
                rw [HTt.out] at hOt
                obtain ⟨Rt, ct, hvt, hRt, hct⟩ := hOt.form
                rw [u8s_len] at hvt hRt hct
                obtain ⟨kt, hkt⟩ : ∃ kt, kt = (turned 1 s).length := ⟨_, rfl⟩
                rw [← hkt] at hvt hRt hct
                have HRtb := hid (fun a (ha : Rt = some a) => (hOt.lt a.block (by rw [hvt, ha]; rfl)).1)
                subst hvt
                have c0 := HA.out.cell? 0
                have c1 := HA.out.cell? 1
                simp only [List.getElem?_cons_zero, List.getElem?_cons_succ] at c0 c1
                have HBel := hid (HKp.out.toBelow (C := wo.heap.size) (by have := H10.out; omega) (by have := H10.out; omega))
                have HB3 := hid (show Below wo.heap.size wo wr from (show Below wo.heap.size wo W2 from by rw [HW2.out]; exact ((Below.refl _ _).alloc (Nat.le_refl _) _).alloc (by simp) _).trans HBel.out)
                obtain ⟨ys, y1, y2, y3⟩ := HSS.out
                have lo := World.ownsRow.lt y1
                have HY := hid (show wr.ownsRow B 97 2 (.slice A7 tl c7) tl (flatT T ys) from by have := ownsRow_below y1 HB3.out (fun g hg => (lo g hg).2); rwa [← HTL.out] at this)
                have hs3 : B ≤ wr.heap.size := by have := HB3.out.size; omega
                have HKT := hid hkt
                have HRt := hid hRt
                have HYS := hid (And.intro y1 (And.intro y2 y3))
                have HCT := hid hct
                clear hOt hkt HTt y1 y2 y3 lo hRt
                go_wp2_with ((at_builtin; refine wpList_appE _ rfl _ _ 47 rfl B 97 i97 _ 32 Try.underlying47 yi yz0 yz1 yz2 rfl _ tl (flatT T ys) rfl (World.ownsRow.alloc HY.out _) ⟨wr.heap.size, 0, none⟩ 1 [.int .i64 ((1 : Nat) : Int), .slice Rt kt ct] rfl rfl (cell_twoE _ _ _ _ _ rfl) (by simp [Value.oneCell']) (by simp only [maxLen]; omega) (by omega) (by simp; omega) ?_))
                intro v7 w7 hO7 hg7 ho7
                have HS7 := hid (show SegsSt w7 B v7 (T ++ [(1, turned 1 s)]) from by
                  obtain ⟨y1, y2, y3⟩ := HYS.out
                  refine SegsSt.app (wr := wo) (w5 := wr) (R := Rt) (c' := ct) y1 y2 y3 (fun g hg => HB3.out.block g hg) HB3.out.size (by rw [← HKT.out]; exact HRt.out) (by rw [← HKT.out]; exact HCT.out) (fun _ a ha => by have := HRtb.out a ha; have := H10.out; omega) ?_ hg7 (by simpa using ho7)
                  rw [← HKT.out, ← HTL.out]; exact hO7)
                have HB7 := hid ((HB.out.trans (HB3.out.mono HB.out.size)).trans ((((Below.refl wr.heap.size wr).alloc (Nat.le_refl _) (.cells #[.int .i64 ((1 : Nat) : Int), .slice Rt kt ct] 97)).mono (show w.heap.size ≤ wr.heap.size from by have := HBe.out; omega)).grown hg7 (by have := HBe.out; simp; omega) (fun g hg => by have := (World.ownsRow.lt HY.out g hg).1; have := HBe.out; omega)))
                have HTO7 := hid (show ∀ x ∈ T ++ [(1, turned 1 s)], SegOk x ∧ Prn x.2 from fun x hx => by
                  rcases List.mem_append.1 hx with hx | hx
                  · exact HTO.out x hx
                  · rw [List.mem_singleton.1 hx]; exact turned_ok 1 s (by unfold IsMode; omega))
                have ht7 : (T ++ [(1, turned 1 s)]).length ≤ 4 := by rw [List.length_append, List.length_singleton, ← HTL.out]; omega
                clear hO7 hg7 ho7
                go_wp2_with fail
                go_roundw
                case rel => first | exact ⟨i + 1, _, by omega, by go_num, ht7, HTO7, HS7, HB7⟩ | ((repeat apply Exists.intro); exact ⟨⟨i + 1, _, by omega, rfl, ht7, HTO7, HS7, HB7⟩, rfl⟩)
                case measure => first | (simp [intOf]; done) | (simp [intOf]; omega)
              · have h200' : ((j : Int) == 200) = false := by simp; omega
                have hj200 : j < 200 := by omega
                have HTJ := hid (turned_take 1 s j hjs (by omega))
                have hgd : s.getD j 0 = s[j]'hjs := by rw [List.getD, List.getElem?_eq_getElem hjs]; rfl
                rw [hgd] at HTJ
                obtain ⟨x, hx⟩ : ∃ x, x = s[j]'hjs := ⟨_, rfl⟩
                rw [← hx] at d0 hx256 HTJ
                obtain ⟨y, hy⟩ : ∃ y, y = turn 1 x := ⟨_, rfl⟩
                rw [← hy] at HTJ
                have e1 : (48 : Int) + (x : Int) % 10 = (y : Int) := by rw [hy]; simp only [turn, if_true]; omega
                have hyl : y < 256 := by rw [hy]; simp only [turn, if_true]; omega
                have c0 := HA.out.cell? 0
                have c1 := HA.out.cell? 1
                simp only [List.getElem?_cons_zero, List.getElem?_cons_succ] at c0 c1
                have hbw : b10 + 1 ≤ wr.heap.size := HA.out.lt
                have HM1 := hid (show (u8s ((turned 1 s).take j)).length + 1 ≤ maxLen ∧ ((u8s ((turned 1 s).take j)).length + 1) * 1 ≤ 140737488355328 from by rw [u8s_len, List.length_take]; simp only [maxLen]; omega)
                clear hcr hjs hgd hx hy h200
                go_wp2_with ((at_builtin; refine wpList_app _ rfl _ _ 22 rfl (b10 + 1) 5 i5 _ 1 Try.underlying22 gi gz0 gz1 gz2 rfl _ (u8s ((turned 1 s).take j)) rfl (HOt.out.alloc _) _ 1 1 [.int .u8 ((y : Nat))] rfl (Rd.one' _ _ _ _ (by first | rfl | (simp; done))) (by intro u hu; rw [List.mem_singleton.1 hu]; rfl) HM1.out.1 HM1.out.2 (Nat.le_trans hbw (by simp <;> omega)) ?_))
                intro v5 w5 hO5 hg5 ho5
                have HO5 := hid (show Own w5 (b10 + 1) 5 v5 (u8s ((turned 1 s).take (j + 1))) from by rw [HTJ.out, u8s_append]; exact hO5)
                have HA5 := hid ((HA.out.alloc (.cells #[.int .u8 (y : Nat)] 5)).grown hg5 (fun e => HBA.out e.symm))
                have HK5 := hid ((HKp.out.alloc hbw (.cells #[.int .u8 (y : Nat)] 5)).own (by simp; omega) hg5 (fun g hg => (HOt.out.lt g hg).1))
                obtain ⟨A5, c5, hv5, _, _⟩ := HO5.out.form
                obtain ⟨l5, hl5⟩ : ∃ l5, l5 = (u8s ((turned 1 s).take (j + 1))).length := ⟨_, rfl⟩
                rw [← hl5] at hv5
                subst hv5
                have f1 := HA5.out.frozen 1
                have c1 := HA5.out.cell? 1
                simp only [List.getElem?_cons_zero, List.getElem?_cons_succ] at c1
                clear hO5 hg5 ho5 HA HOt HKp hl5
                go_wp2_with fail
                have HB5 : (Value.slice A5 l5 c5).ownBlock ≠ some b10 := fun e => by have := (HO5.out.lt b10 e).1; omega
                have HA6 := hid (show Arr (w5.setCell ⟨b10, 1, none⟩ (.slice A5 l5 c5)) b10 97 [.int .i64 ((1 : Nat) : Int), .slice A5 l5 c5] from HA5.out.set 1 (.slice A5 l5 c5))
                have HO6 := hid (HO5.out.far (p := ⟨b10, 1, none⟩) HB5 (.slice A5 l5 c5))
                have HK6 := hid (HK5.out.trans (⟨rfl, rfl, rfl, by rw [World.size_setCell]; exact Nat.le_refl _, fun g _ hgq => Below.heap_setCell w5 ⟨b10, 1, none⟩ (.slice A5 l5 c5) g hgq⟩ : Kp (b10 + 1) b10 w5 (w5.setCell ⟨b10, 1, none⟩ (.slice A5 l5 c5))))
                go_roundw
                case rel => first | exact ⟨j + 1, _, by omega, by omega, by go_num, HA6, HO6, HK6⟩ | ((repeat apply Exists.intro); exact ⟨⟨j + 1, _, by omega, by omega, rfl, HA6, HO6, HK6⟩, rfl⟩)
                case measure => first | (simp [intOf]; done) | (simp [intOf]; omega)
            · have hjk' : ¬ (j : Int) < (k : Int) := by omega
              have hje : j = k := by omega
              have HJX := hid (show j = 200 ∨ j = k from .inr hje)
              clear hje hjk
              have HTt := hid (show (turned 1 s).take j = turned 1 s from List.take_of_length_le (by simp [turned]; have := HK.out; have := HJX.out; omega))
              have hOt := HOt.out
              rw [HTt.out] at hOt
              obtain ⟨Rt, ct, hvt, hRt, hct⟩ := hOt.form
              rw [u8s_len] at hvt hRt hct
              obtain ⟨kt, hkt⟩ : ∃ kt, kt = (turned 1 s).length := ⟨_, rfl⟩
              rw [← hkt] at hvt hRt hct
              have HRtb := hid (fun a (ha : Rt = some a) => (hOt.lt a.block (by rw [hvt, ha]; rfl)).1)
              subst hvt
              have c0 := HA.out.cell? 0
              have c1 := HA.out.cell? 1
              simp only [List.getElem?_cons_zero, List.getElem?_cons_succ] at c0 c1
              have HBel := hid (HKp.out.toBelow (C := wo.heap.size) (by have := H10.out; omega) (by have := H10.out; omega))
              have HB3 := hid (show Below wo.heap.size wo wr from (show Below wo.heap.size wo W2 from by rw [HW2.out]; exact ((Below.refl _ _).alloc (Nat.le_refl _) _).alloc (by simp) _).trans HBel.out)
              obtain ⟨ys, y1, y2, y3⟩ := HSS.out
              have lo := World.ownsRow.lt y1
              have HY := hid (show wr.ownsRow B 97 2 (.slice A7 tl c7) tl (flatT T ys) from by have := ownsRow_below y1 HB3.out (fun g hg => (lo g hg).2); rwa [← HTL.out] at this)
              have hs3 : B ≤ wr.heap.size := by have := HB3.out.size; omega
              have HKT := hid hkt
              have HRt := hid hRt
              have HYS := hid (And.intro y1 (And.intro y2 y3))
              have HCT := hid hct
              clear hOt hkt HTt y1 y2 y3 lo hRt
              go_wp2_with ((at_builtin; refine wpList_appE _ rfl _ _ 47 rfl B 97 i97 _ 32 Try.underlying47 yi yz0 yz1 yz2 rfl _ tl (flatT T ys) rfl (World.ownsRow.alloc HY.out _) ⟨wr.heap.size, 0, none⟩ 1 [.int .i64 ((1 : Nat) : Int), .slice Rt kt ct] rfl rfl (cell_twoE _ _ _ _ _ rfl) (by simp [Value.oneCell']) (by simp only [maxLen]; omega) (by omega) (by simp; omega) ?_))
              intro v7 w7 hO7 hg7 ho7
              have HS7 := hid (show SegsSt w7 B v7 (T ++ [(1, turned 1 s)]) from by
                obtain ⟨y1, y2, y3⟩ := HYS.out
                refine SegsSt.app (wr := wo) (w5 := wr) (R := Rt) (c' := ct) y1 y2 y3 (fun g hg => HB3.out.block g hg) HB3.out.size (by rw [← HKT.out]; exact HRt.out) (by rw [← HKT.out]; exact HCT.out) (fun _ a ha => by have := HRtb.out a ha; have := H10.out; omega) ?_ hg7 (by simpa using ho7)
                rw [← HKT.out, ← HTL.out]; exact hO7)
              have HB7 := hid ((HB.out.trans (HB3.out.mono HB.out.size)).trans ((((Below.refl wr.heap.size wr).alloc (Nat.le_refl _) (.cells #[.int .i64 ((1 : Nat) : Int), .slice Rt kt ct] 97)).mono (show w.heap.size ≤ wr.heap.size from by have := HBe.out; omega)).grown hg7 (by have := HBe.out; simp; omega) (fun g hg => by have := (World.ownsRow.lt HY.out g hg).1; have := HBe.out; omega)))
              have HTO7 := hid (show ∀ x ∈ T ++ [(1, turned 1 s)], SegOk x ∧ Prn x.2 from fun x hx => by
                rcases List.mem_append.1 hx with hx | hx
                · exact HTO.out x hx
                · rw [List.mem_singleton.1 hx]; exact turned_ok 1 s (by unfold IsMode; omega))
              have ht7 : (T ++ [(1, turned 1 s)]).length ≤ 4 := by rw [List.length_append, List.length_singleton, ← HTL.out]; omega
              clear hO7 hg7 ho7
              go_wp2_with fail
              go_roundw
              case rel => first | exact ⟨i + 1, _, by omega, by go_num, ht7, HTO7, HS7, HB7⟩ | ((repeat apply Exists.intro); exact ⟨⟨i + 1, _, by omega, rfl, ht7, HTO7, HS7, HB7⟩, rfl⟩)
              case measure => first | (simp [intOf]; done) | (simp [intOf]; omega)
        · have ix : ∀ w, (Instr.index 99 (.agg #[.int .i64 1, .int .i64 2, .int .i64 4]) (.int .i64 1)).run Try.prog w = .ok (.int .i64 2) w := fun _ => by kernel_rfl
          obtain ⟨b10, h10⟩ : ∃ b10, b10 = wr.heap.size + 1 := ⟨_, rfl⟩
          have H10 := hid h10
          have HA10 := hid (show Arr ((wr.alloc (.cells #[.int .i64 m, .slice R k cR] 97)).alloc (.cells #[.int .i64 2, .slice none 0 0] 97)) b10 97 [.int .i64 ((2 : Nat) : Int), .slice none 0 0] from by
            have := Arr.of_new (wr.alloc (.cells #[.int .i64 m, .slice R k cR] 97)) 97 #[.int .i64 2, .slice none 0 0]
            rw [World.size_alloc] at this
            rw [h10]; exact this)
          have hsz2 : ((wr.alloc (.cells #[.int .i64 m, .slice R k cR] 97)).alloc (.cells #[.int .i64 2, .slice none 0 0] 97)).heap.size = b10 + 1 := by simp; omega
          have HR2 := hid (HR0.out.below (HB.out.trans (((Below.refl w.heap.size wr).alloc HB.out.size (.cells #[.int .i64 m, .slice R k cR] 97)).alloc (by have := HB.out.size; simp; omega) (.cells #[.int .i64 2, .slice none 0 0] 97))))
          have HRb := hid (show 0 < k → ∀ a, R = some a → a.block < w.heap.size from fun h0 a ha => by
            obtain ⟨b', o', e', hb', _⟩ := HR0.out.2 h0
            rw [e'] at ha; injection ha with ha; subst ha; exact hb')
          have htl3 : tl ≤ 3 := by omega
          clear h4 hq ht
          go_wp2_with fail
          rw [← h10]
          obtain ⟨W2, hW2⟩ : ∃ W2, W2 = (wr.alloc (.cells #[.int .i64 m, .slice R k cR] 97)).alloc (.cells #[.int .i64 2, .slice none 0 0] 97) := ⟨_, rfl⟩
          rw [← hW2] at HA10 hsz2 HR2 ⊢
          have HW2 := hid hW2
          clear hW2 h10 a1 a2 hbl hm3 hq2 hq3 ix
          obtain ⟨wo, hwo⟩ : ∃ wo, wo = wr := ⟨_, rfl⟩
          subst hwo
          go_loopw [34] (fun jv wr2 => ∃ (j : Nat) (tv : Value), j ≤ k ∧ j ≤ 200 ∧ jv = .int .i64 (j : Nat) ∧ Hid (Arr wr2 b10 97 [.int .i64 ((2 : Nat) : Int), tv]) ∧ Hid (Own wr2 (b10 + 1) 5 tv (u8s ((turned 2 s).take j))) ∧ Hid (Kp (b10 + 1) b10 W2 wr2)) (fun jv _ => k - (intOf jv).toNat)
          case atStart => exact ⟨0, .slice none 0 0, by omega, by omega, rfl, HA10, hid (by simpa [u8s] using Own.nil W2 (b10 + 1) 5), hid (Kp.refl _ _ _)⟩
          case round =>
            obtain ⟨j, tv, hj1, hj2, rfl, HA, HOt, HKp⟩ := hrel
            have HBA := hid (show tv.ownBlock ≠ some b10 from fun e => by have := (HOt.out.lt b10 e).1; omega)
            by_cases hjk : j < k
            · have hjk' : (j : Int) < (k : Int) := by omega
              obtain ⟨rb, ro, rfl, hrb, hcr⟩ := (HKp.out.rd HR2.out (fun a ha => by have := HRb.out (by omega) a ha; have := H10.out; have := HB.out.size; omega)).2 (by omega)
              have hjs : j < s.length := by rw [← HK.out]; exact hjk
              have d0 := hcr j (by rw [u8s_len]; exact hjs)
              simp only [u8s, List.getElem_map] at d0
              have hx256 := HBS.out _ (List.getElem_mem hjs)
              by_cases h200 : j = 200
              · have h200' : ((j : Int) == 200) = true := by simp; omega
                have HJX := hid (show j = 200 ∨ j = k from .inl h200)
                generalize s[j]'hjs = x0 at d0 hx256
                clear hjk h200 hcr hjs
                have HTt := hid (show (turned 2 s).take j = turned 2 s from List.take_of_length_le (by simp [turned]; have := HK.out; have := HJX.out; omega))
                have hOt := HOt.out
                rw [HTt.out] at hOt
                obtain ⟨Rt, ct, hvt, hRt, hct⟩ := hOt.form
                rw [u8s_len] at hvt hRt hct
                obtain ⟨kt, hkt⟩ : ∃ kt, kt = (turned 2 s).length := ⟨_, rfl⟩
                rw [← hkt] at hvt hRt hct
                have HRtb := hid (fun a (ha : Rt = some a) => (hOt.lt a.block (by rw [hvt, ha]; rfl)).1)
                subst hvt
                have c0 := HA.out.cell? 0
                have c1 := HA.out.cell? 1
                simp only [List.getElem?_cons_zero, List.getElem?_cons_succ] at c0 c1
                have HBel := hid (HKp.out.toBelow (C := wo.heap.size) (by have := H10.out; omega) (by have := H10.out; omega))
                have HB3 := hid (show Below wo.heap.size wo wr from (show Below wo.heap.size wo W2 from by rw [HW2.out]; exact ((Below.refl _ _).alloc (Nat.le_refl _) _).alloc (by simp) _).trans HBel.out)
                obtain ⟨ys, y1, y2, y3⟩ := HSS.out
                have lo := World.ownsRow.lt y1
                have HY := hid (show wr.ownsRow B 97 2 (.slice A7 tl c7) tl (flatT T ys) from by have := ownsRow_below y1 HB3.out (fun g hg => (lo g hg).2); rwa [← HTL.out] at this)
                have hs3 : B ≤ wr.heap.size := by have := HB3.out.size; omega
                have HKT := hid hkt
                have HRt := hid hRt
                have HYS := hid (And.intro y1 (And.intro y2 y3))
                have HCT := hid hct
                clear hOt hkt HTt y1 y2 y3 lo hRt
                go_wp2_with ((at_builtin; refine wpList_appE _ rfl _ _ 47 rfl B 97 i97 _ 32 Try.underlying47 yi yz0 yz1 yz2 rfl _ tl (flatT T ys) rfl (World.ownsRow.alloc HY.out _) ⟨wr.heap.size, 0, none⟩ 1 [.int .i64 ((2 : Nat) : Int), .slice Rt kt ct] rfl rfl (cell_twoE _ _ _ _ _ rfl) (by simp [Value.oneCell']) (by simp only [maxLen]; omega) (by omega) (by simp; omega) ?_))
                intro v7 w7 hO7 hg7 ho7
                have HS7 := hid (show SegsSt w7 B v7 (T ++ [(2, turned 2 s)]) from by
                  obtain ⟨y1, y2, y3⟩ := HYS.out
                  refine SegsSt.app (wr := wo) (w5 := wr) (R := Rt) (c' := ct) y1 y2 y3 (fun g hg => HB3.out.block g hg) HB3.out.size (by rw [← HKT.out]; exact HRt.out) (by rw [← HKT.out]; exact HCT.out) (fun _ a ha => by have := HRtb.out a ha; have := H10.out; omega) ?_ hg7 (by simpa using ho7)
                  rw [← HKT.out, ← HTL.out]; exact hO7)
                have HB7 := hid ((HB.out.trans (HB3.out.mono HB.out.size)).trans ((((Below.refl wr.heap.size wr).alloc (Nat.le_refl _) (.cells #[.int .i64 ((2 : Nat) : Int), .slice Rt kt ct] 97)).mono (show w.heap.size ≤ wr.heap.size from by have := HBe.out; omega)).grown hg7 (by have := HBe.out; simp; omega) (fun g hg => by have := (World.ownsRow.lt HY.out g hg).1; have := HBe.out; omega)))
                have HTO7 := hid (show ∀ x ∈ T ++ [(2, turned 2 s)], SegOk x ∧ Prn x.2 from fun x hx => by
                  rcases List.mem_append.1 hx with hx | hx
                  · exact HTO.out x hx
                  · rw [List.mem_singleton.1 hx]; exact turned_ok 2 s (by unfold IsMode; omega))
                have ht7 : (T ++ [(2, turned 2 s)]).length ≤ 4 := by rw [List.length_append, List.length_singleton, ← HTL.out]; omega
                clear hO7 hg7 ho7
                go_wp2_with fail
                go_roundw
                case rel => first | exact ⟨i + 1, _, by omega, by go_num, ht7, HTO7, HS7, HB7⟩ | ((repeat apply Exists.intro); exact ⟨⟨i + 1, _, by omega, rfl, ht7, HTO7, HS7, HB7⟩, rfl⟩)
                case measure => first | (simp [intOf]; done) | (simp [intOf]; omega)
              · have h200' : ((j : Int) == 200) = false := by simp; omega
                have hj200 : j < 200 := by omega
                have HTJ := hid (turned_take 2 s j hjs (by omega))
                have hgd : s.getD j 0 = s[j]'hjs := by rw [List.getD, List.getElem?_eq_getElem hjs]; rfl
                rw [hgd] at HTJ
                obtain ⟨x, hx⟩ : ∃ x, x = s[j]'hjs := ⟨_, rfl⟩
                rw [← hx] at d0 hx256 HTJ
                obtain ⟨y, hy⟩ : ∃ y, y = turn 2 x := ⟨_, rfl⟩
                rw [← hy] at HTJ
                obtain ⟨zq, hzq⟩ : ∃ zq, zq = x % 45 := ⟨_, rfl⟩
                have e1 : (x : Int) % 45 = (zq : Int) := by omega
                have aq := fun W => alphaByteQ zq (by omega) W
                have hye : alphL.getD zq 0 = y := by rw [hy, hzq]; rfl
                rw [hye] at aq
                have hyl : y < 256 := by have := (alph_ok zq (by omega)).2.1; omega
                clear hzq hye
                have c0 := HA.out.cell? 0
                have c1 := HA.out.cell? 1
                simp only [List.getElem?_cons_zero, List.getElem?_cons_succ] at c0 c1
                have hbw : b10 + 1 ≤ wr.heap.size := HA.out.lt
                have HM1 := hid (show (u8s ((turned 2 s).take j)).length + 1 ≤ maxLen ∧ ((u8s ((turned 2 s).take j)).length + 1) * 1 ≤ 140737488355328 from by rw [u8s_len, List.length_take]; simp only [maxLen]; omega)
                clear hcr hjs hgd hx hy h200
                go_wp2_with (first | (go_at_call 46; ((with_reducible refine (aq _).mono ?_); rintro e w4 ⟨rfl, rfl⟩)) | (at_builtin; refine wpList_app _ rfl _ _ 22 rfl (b10 + 1) 5 i5 _ 1 Try.underlying22 gi gz0 gz1 gz2 rfl _ (u8s ((turned 2 s).take j)) rfl (HOt.out.alloc _) _ 1 1 [.int .u8 ((y : Nat))] rfl (Rd.one' _ _ _ _ (by first | rfl | (simp; done))) (by intro u hu; rw [List.mem_singleton.1 hu]; rfl) HM1.out.1 HM1.out.2 (Nat.le_trans hbw (by simp <;> omega)) ?_))
                intro v5 w5 hO5 hg5 ho5
                have HO5 := hid (show Own w5 (b10 + 1) 5 v5 (u8s ((turned 2 s).take (j + 1))) from by rw [HTJ.out, u8s_append]; exact hO5)
                have HA5 := hid ((HA.out.alloc (.cells #[.int .u8 (y : Nat)] 5)).grown hg5 (fun e => HBA.out e.symm))
                have HK5 := hid ((HKp.out.alloc hbw (.cells #[.int .u8 (y : Nat)] 5)).own (by simp; omega) hg5 (fun g hg => (HOt.out.lt g hg).1))
                obtain ⟨A5, c5, hv5, _, _⟩ := HO5.out.form
                obtain ⟨l5, hl5⟩ : ∃ l5, l5 = (u8s ((turned 2 s).take (j + 1))).length := ⟨_, rfl⟩
                rw [← hl5] at hv5
                subst hv5
                have f1 := HA5.out.frozen 1
                have c1 := HA5.out.cell? 1
                simp only [List.getElem?_cons_zero, List.getElem?_cons_succ] at c1
                clear hO5 hg5 ho5 HA HOt HKp hl5
                go_wp2_with fail
                have HB5 : (Value.slice A5 l5 c5).ownBlock ≠ some b10 := fun e => by have := (HO5.out.lt b10 e).1; omega
                have HA6 := hid (show Arr (w5.setCell ⟨b10, 1, none⟩ (.slice A5 l5 c5)) b10 97 [.int .i64 ((2 : Nat) : Int), .slice A5 l5 c5] from HA5.out.set 1 (.slice A5 l5 c5))
                have HO6 := hid (HO5.out.far (p := ⟨b10, 1, none⟩) HB5 (.slice A5 l5 c5))
                have HK6 := hid (HK5.out.trans (⟨rfl, rfl, rfl, by rw [World.size_setCell]; exact Nat.le_refl _, fun g _ hgq => Below.heap_setCell w5 ⟨b10, 1, none⟩ (.slice A5 l5 c5) g hgq⟩ : Kp (b10 + 1) b10 w5 (w5.setCell ⟨b10, 1, none⟩ (.slice A5 l5 c5))))
                go_roundw
                case rel => first | exact ⟨j + 1, _, by omega, by omega, by go_num, HA6, HO6, HK6⟩ | ((repeat apply Exists.intro); exact ⟨⟨j + 1, _, by omega, by omega, rfl, HA6, HO6, HK6⟩, rfl⟩)
                case measure => first | (simp [intOf]; done) | (simp [intOf]; omega)
            · have hjk' : ¬ (j : Int) < (k : Int) := by omega
              have hje : j = k := by omega
              have HJX := hid (show j = 200 ∨ j = k from .inr hje)
              clear hje hjk
              have HTt := hid (show (turned 2 s).take j = turned 2 s from List.take_of_length_le (by simp [turned]; have := HK.out; have := HJX.out; omega))
              have hOt := HOt.out
              rw [HTt.out] at hOt
              obtain ⟨Rt, ct, hvt, hRt, hct⟩ := hOt.form
              rw [u8s_len] at hvt hRt hct
              obtain ⟨kt, hkt⟩ : ∃ kt, kt = (turned 2 s).length := ⟨_, rfl⟩
              rw [← hkt] at hvt hRt hct
              have HRtb := hid (fun a (ha : Rt = some a) => (hOt.lt a.block (by rw [hvt, ha]; rfl)).1)
              subst hvt
              have c0 := HA.out.cell? 0
              have c1 := HA.out.cell? 1
              simp only [List.getElem?_cons_zero, List.getElem?_cons_succ] at c0 c1
              have HBel := hid (HKp.out.toBelow (C := wo.heap.size) (by have := H10.out; omega) (by have := H10.out; omega))
              have HB3 := hid (show Below wo.heap.size wo wr from (show Below wo.heap.size wo W2 from by rw [HW2.out]; exact ((Below.refl _ _).alloc (Nat.le_refl _) _).alloc (by simp) _).trans HBel.out)
              obtain ⟨ys, y1, y2, y3⟩ := HSS.out
              have lo := World.ownsRow.lt y1
              have HY := hid (show wr.ownsRow B 97 2 (.slice A7 tl c7) tl (flatT T ys) from by have := ownsRow_below y1 HB3.out (fun g hg => (lo g hg).2); rwa [← HTL.out] at this)
              have hs3 : B ≤ wr.heap.size := by have := HB3.out.size; omega
              have HKT := hid hkt
              have HRt := hid hRt
              have HYS := hid (And.intro y1 (And.intro y2 y3))
              have HCT := hid hct
              clear hOt hkt HTt y1 y2 y3 lo hRt
              go_wp2_with ((at_builtin; refine wpList_appE _ rfl _ _ 47 rfl B 97 i97 _ 32 Try.underlying47 yi yz0 yz1 yz2 rfl _ tl (flatT T ys) rfl (World.ownsRow.alloc HY.out _) ⟨wr.heap.size, 0, none⟩ 1 [.int .i64 ((2 : Nat) : Int), .slice Rt kt ct] rfl rfl (cell_twoE _ _ _ _ _ rfl) (by simp [Value.oneCell']) (by simp only [maxLen]; omega) (by omega) (by simp; omega) ?_))
              intro v7 w7 hO7 hg7 ho7
              have HS7 := hid (show SegsSt w7 B v7 (T ++ [(2, turned 2 s)]) from by
                obtain ⟨y1, y2, y3⟩ := HYS.out
                refine SegsSt.app (wr := wo) (w5 := wr) (R := Rt) (c' := ct) y1 y2 y3 (fun g hg => HB3.out.block g hg) HB3.out.size (by rw [← HKT.out]; exact HRt.out) (by rw [← HKT.out]; exact HCT.out) (fun _ a ha => by have := HRtb.out a ha; have := H10.out; omega) ?_ hg7 (by simpa using ho7)
                rw [← HKT.out, ← HTL.out]; exact hO7)
              have HB7 := hid ((HB.out.trans (HB3.out.mono HB.out.size)).trans ((((Below.refl wr.heap.size wr).alloc (Nat.le_refl _) (.cells #[.int .i64 ((2 : Nat) : Int), .slice Rt kt ct] 97)).mono (show w.heap.size ≤ wr.heap.size from by have := HBe.out; omega)).grown hg7 (by have := HBe.out; simp; omega) (fun g hg => by have := (World.ownsRow.lt HY.out g hg).1; have := HBe.out; omega)))
              have HTO7 := hid (show ∀ x ∈ T ++ [(2, turned 2 s)], SegOk x ∧ Prn x.2 from fun x hx => by
                rcases List.mem_append.1 hx with hx | hx
                · exact HTO.out x hx
                · rw [List.mem_singleton.1 hx]; exact turned_ok 2 s (by unfold IsMode; omega))
              have ht7 : (T ++ [(2, turned 2 s)]).length ≤ 4 := by rw [List.length_append, List.length_singleton, ← HTL.out]; omega
              clear hO7 hg7 ho7
              go_wp2_with fail
              go_roundw
              case rel => first | exact ⟨i + 1, _, by omega, by go_num, ht7, HTO7, HS7, HB7⟩ | ((repeat apply Exists.intro); exact ⟨⟨i + 1, _, by omega, rfl, ht7, HTO7, HS7, HB7⟩, rfl⟩)
              case measure => first | (simp [intOf]; done) | (simp [intOf]; omega)
        · have ix : ∀ w, (Instr.index 99 (.agg #[.int .i64 1, .int .i64 2, .int .i64 4]) (.int .i64 2)).run Try.prog w = .ok (.int .i64 4) w := fun _ => by kernel_rfl
          obtain ⟨b10, h10⟩ : ∃ b10, b10 = wr.heap.size + 1 := ⟨_, rfl⟩
          have H10 := hid h10
          have HA10 := hid (show Arr ((wr.alloc (.cells #[.int .i64 m, .slice R k cR] 97)).alloc (.cells #[.int .i64 4, .slice none 0 0] 97)) b10 97 [.int .i64 ((4 : Nat) : Int), .slice none 0 0] from by
            have := Arr.of_new (wr.alloc (.cells #[.int .i64 m, .slice R k cR] 97)) 97 #[.int .i64 4, .slice none 0 0]
            rw [World.size_alloc] at this
            rw [h10]; exact this)
          have hsz2 : ((wr.alloc (.cells #[.int .i64 m, .slice R k cR] 97)).alloc (.cells #[.int .i64 4, .slice none 0 0] 97)).heap.size = b10 + 1 := by simp; omega
          have HR2 := hid (HR0.out.below (HB.out.trans (((Below.refl w.heap.size wr).alloc HB.out.size (.cells #[.int .i64 m, .slice R k cR] 97)).alloc (by have := HB.out.size; simp; omega) (.cells #[.int .i64 4, .slice none 0 0] 97))))
          have HRb := hid (show 0 < k → ∀ a, R = some a → a.block < w.heap.size from fun h0 a ha => by
            obtain ⟨b', o', e', hb', _⟩ := HR0.out.2 h0
            rw [e'] at ha; injection ha with ha; subst ha; exact hb')
          have htl3 : tl ≤ 3 := by omega
          clear h4 hq ht
          go_wp2_with fail
          rw [← h10]
          obtain ⟨W2, hW2⟩ : ∃ W2, W2 = (wr.alloc (.cells #[.int .i64 m, .slice R k cR] 97)).alloc (.cells #[.int .i64 4, .slice none 0 0] 97) := ⟨_, rfl⟩
          rw [← hW2] at HA10 hsz2 HR2 ⊢
          have HW2 := hid hW2
          clear hW2 h10 a1 a2 hbl hm3 hq2 hq3 ix
          obtain ⟨wo, hwo⟩ : ∃ wo, wo = wr := ⟨_, rfl⟩
          subst hwo
          go_loopw [34] (fun jv wr2 => ∃ (j : Nat) (tv : Value), j ≤ k ∧ j ≤ 200 ∧ jv = .int .i64 (j : Nat) ∧ Hid (Arr wr2 b10 97 [.int .i64 ((4 : Nat) : Int), tv]) ∧ Hid (Own wr2 (b10 + 1) 5 tv (u8s ((turned 4 s).take j))) ∧ Hid (Kp (b10 + 1) b10 W2 wr2)) (fun jv _ => k - (intOf jv).toNat)
          case atStart => exact ⟨0, .slice none 0 0, by omega, by omega, rfl, HA10, hid (by simpa [u8s] using Own.nil W2 (b10 + 1) 5), hid (Kp.refl _ _ _)⟩
          case round =>
            obtain ⟨j, tv, hj1, hj2, rfl, HA, HOt, HKp⟩ := hrel
            have HBA := hid (show tv.ownBlock ≠ some b10 from fun e => by have := (HOt.out.lt b10 e).1; omega)
            by_cases hjk : j < k
            · have hjk' : (j : Int) < (k : Int) := by omega
              obtain ⟨rb, ro, rfl, hrb, hcr⟩ := (HKp.out.rd HR2.out (fun a ha => by have := HRb.out (by omega) a ha; have := H10.out; have := HB.out.size; omega)).2 (by omega)
              have hjs : j < s.length := by rw [← HK.out]; exact hjk
              have d0 := hcr j (by rw [u8s_len]; exact hjs)
              simp only [u8s, List.getElem_map] at d0
              have hx256 := HBS.out _ (List.getElem_mem hjs)
              by_cases h200 : j = 200
              · have h200' : ((j : Int) == 200) = true := by simp; omega
                have HJX := hid (show j = 200 ∨ j = k from .inl h200)
                generalize s[j]'hjs = x0 at d0 hx256
                clear hjk h200 hcr hjs
                have HTt := hid (show (turned 4 s).take j = turned 4 s from List.take_of_length_le (by simp [turned]; have := HK.out; have := HJX.out; omega))
                have hOt := HOt.out
                rw [HTt.out] at hOt
                obtain ⟨Rt, ct, hvt, hRt, hct⟩ := hOt.form
                rw [u8s_len] at hvt hRt hct
                obtain ⟨kt, hkt⟩ : ∃ kt, kt = (turned 4 s).length := ⟨_, rfl⟩
                rw [← hkt] at hvt hRt hct
                have HRtb := hid (fun a (ha : Rt = some a) => (hOt.lt a.block (by rw [hvt, ha]; rfl)).1)
                subst hvt
                have c0 := HA.out.cell? 0
                have c1 := HA.out.cell? 1
                simp only [List.getElem?_cons_zero, List.getElem?_cons_succ] at c0 c1
                have HBel := hid (HKp.out.toBelow (C := wo.heap.size) (by have := H10.out; omega) (by have := H10.out; omega))
                have HB3 := hid (show Below wo.heap.size wo wr from (show Below wo.heap.size wo W2 from by rw [HW2.out]; exact ((Below.refl _ _).alloc (Nat.le_refl _) _).alloc (by simp) _).trans HBel.out)
                obtain ⟨ys, y1, y2, y3⟩ := HSS.out
                have lo := World.ownsRow.lt y1
                have HY := hid (show wr.ownsRow B 97 2 (.slice A7 tl c7) tl (flatT T ys) from by have := ownsRow_below y1 HB3.out (fun g hg => (lo g hg).2); rwa [← HTL.out] at this)
                have hs3 : B ≤ wr.heap.size := by have := HB3.out.size; omega
                have HKT := hid hkt
                have HRt := hid hRt
                have HYS := hid (And.intro y1 (And.intro y2 y3))
                have HCT := hid hct
                clear hOt hkt HTt y1 y2 y3 lo hRt
                go_wp2_with ((at_builtin; refine wpList_appE _ rfl _ _ 47 rfl B 97 i97 _ 32 Try.underlying47 yi yz0 yz1 yz2 rfl _ tl (flatT T ys) rfl (World.ownsRow.alloc HY.out _) ⟨wr.heap.size, 0, none⟩ 1 [.int .i64 ((4 : Nat) : Int), .slice Rt kt ct] rfl rfl (cell_twoE _ _ _ _ _ rfl) (by simp [Value.oneCell']) (by simp only [maxLen]; omega) (by omega) (by simp; omega) ?_))
                intro v7 w7 hO7 hg7 ho7
                have HS7 := hid (show SegsSt w7 B v7 (T ++ [(4, turned 4 s)]) from by
                  obtain ⟨y1, y2, y3⟩ := HYS.out
                  refine SegsSt.app (wr := wo) (w5 := wr) (R := Rt) (c' := ct) y1 y2 y3 (fun g hg => HB3.out.block g hg) HB3.out.size (by rw [← HKT.out]; exact HRt.out) (by rw [← HKT.out]; exact HCT.out) (fun _ a ha => by have := HRtb.out a ha; have := H10.out; omega) ?_ hg7 (by simpa using ho7)
                  rw [← HKT.out, ← HTL.out]; exact hO7)
                have HB7 := hid ((HB.out.trans (HB3.out.mono HB.out.size)).trans ((((Below.refl wr.heap.size wr).alloc (Nat.le_refl _) (.cells #[.int .i64 ((4 : Nat) : Int), .slice Rt kt ct] 97)).mono (show w.heap.size ≤ wr.heap.size from by have := HBe.out; omega)).grown hg7 (by have := HBe.out; simp; omega) (fun g hg => by have := (World.ownsRow.lt HY.out g hg).1; have := HBe.out; omega)))
                have HTO7 := hid (show ∀ x ∈ T ++ [(4, turned 4 s)], SegOk x ∧ Prn x.2 from fun x hx => by
                  rcases List.mem_append.1 hx with hx | hx
                  · exact HTO.out x hx
                  · rw [List.mem_singleton.1 hx]; exact turned_ok 4 s (by unfold IsMode; omega))
                have ht7 : (T ++ [(4, turned 4 s)]).length ≤ 4 := by rw [List.length_append, List.length_singleton, ← HTL.out]; omega
                clear hO7 hg7 ho7
                go_wp2_with fail
                go_roundw
                case rel => first | exact ⟨i + 1, _, by omega, by go_num, ht7, HTO7, HS7, HB7⟩ | ((repeat apply Exists.intro); exact ⟨⟨i + 1, _, by omega, rfl, ht7, HTO7, HS7, HB7⟩, rfl⟩)
                case measure => first | (simp [intOf]; done) | (simp [intOf]; omega)
              · have h200' : ((j : Int) == 200) = false := by simp; omega
                have hj200 : j < 200 := by omega
                have HTJ := hid (turned_take 4 s j hjs (by omega))
                have hgd : s.getD j 0 = s[j]'hjs := by rw [List.getD, List.getElem?_eq_getElem hjs]; rfl
                rw [hgd] at HTJ
                obtain ⟨x, hx⟩ : ∃ x, x = s[j]'hjs := ⟨_, rfl⟩
                rw [← hx] at d0 hx256 HTJ
                obtain ⟨y, hy⟩ : ∃ y, y = turn 4 x := ⟨_, rfl⟩
                rw [← hy] at HTJ
                have e1 : (32 : Int) + (x : Int) % 95 = (y : Int) := by rw [hy]; simp [turn] <;> omega
                have hyl : y < 256 := by rw [hy]; simp [turn] <;> omega
                have c0 := HA.out.cell? 0
                have c1 := HA.out.cell? 1
                simp only [List.getElem?_cons_zero, List.getElem?_cons_succ] at c0 c1
                have hbw : b10 + 1 ≤ wr.heap.size := HA.out.lt
                have HM1 := hid (show (u8s ((turned 4 s).take j)).length + 1 ≤ maxLen ∧ ((u8s ((turned 4 s).take j)).length + 1) * 1 ≤ 140737488355328 from by rw [u8s_len, List.length_take]; simp only [maxLen]; omega)
                clear hcr hjs hgd hx hy h200
                go_wp2_with ((at_builtin; refine wpList_app _ rfl _ _ 22 rfl (b10 + 1) 5 i5 _ 1 Try.underlying22 gi gz0 gz1 gz2 rfl _ (u8s ((turned 4 s).take j)) rfl (HOt.out.alloc _) _ 1 1 [.int .u8 ((y : Nat))] rfl (Rd.one' _ _ _ _ (by first | rfl | (simp; done))) (by intro u hu; rw [List.mem_singleton.1 hu]; rfl) HM1.out.1 HM1.out.2 (Nat.le_trans hbw (by simp <;> omega)) ?_))
                intro v5 w5 hO5 hg5 ho5
                have HO5 := hid (show Own w5 (b10 + 1) 5 v5 (u8s ((turned 4 s).take (j + 1))) from by rw [HTJ.out, u8s_append]; exact hO5)
                have HA5 := hid ((HA.out.alloc (.cells #[.int .u8 (y : Nat)] 5)).grown hg5 (fun e => HBA.out e.symm))
                have HK5 := hid ((HKp.out.alloc hbw (.cells #[.int .u8 (y : Nat)] 5)).own (by simp; omega) hg5 (fun g hg => (HOt.out.lt g hg).1))
                obtain ⟨A5, c5, hv5, _, _⟩ := HO5.out.form
                obtain ⟨l5, hl5⟩ : ∃ l5, l5 = (u8s ((turned 4 s).take (j + 1))).length := ⟨_, rfl⟩
                rw [← hl5] at hv5
                subst hv5
                have f1 := HA5.out.frozen 1
                have c1 := HA5.out.cell? 1
                simp only [List.getElem?_cons_zero, List.getElem?_cons_succ] at c1
                clear hO5 hg5 ho5 HA HOt HKp hl5
                go_wp2_with fail
                have HB5 : (Value.slice A5 l5 c5).ownBlock ≠ some b10 := fun e => by have := (HO5.out.lt b10 e).1; omega
                have HA6 := hid (show Arr (w5.setCell ⟨b10, 1, none⟩ (.slice A5 l5 c5)) b10 97 [.int .i64 ((4 : Nat) : Int), .slice A5 l5 c5] from HA5.out.set 1 (.slice A5 l5 c5))
                have HO6 := hid (HO5.out.far (p := ⟨b10, 1, none⟩) HB5 (.slice A5 l5 c5))
                have HK6 := hid (HK5.out.trans (⟨rfl, rfl, rfl, by rw [World.size_setCell]; exact Nat.le_refl _, fun g _ hgq => Below.heap_setCell w5 ⟨b10, 1, none⟩ (.slice A5 l5 c5) g hgq⟩ : Kp (b10 + 1) b10 w5 (w5.setCell ⟨b10, 1, none⟩ (.slice A5 l5 c5))))
                go_roundw
                case rel => first | exact ⟨j + 1, _, by omega, by omega, by go_num, HA6, HO6, HK6⟩ | ((repeat apply Exists.intro); exact ⟨⟨j + 1, _, by omega, by omega, rfl, HA6, HO6, HK6⟩, rfl⟩)
                case measure => first | (simp [intOf]; done) | (simp [intOf]; omega)
            · have hjk' : ¬ (j : Int) < (k : Int) := by omega
              have hje : j = k := by omega
              have HJX := hid (show j = 200 ∨ j = k from .inr hje)
              clear hje hjk
              have HTt := hid (show (turned 4 s).take j = turned 4 s from List.take_of_length_le (by simp [turned]; have := HK.out; have := HJX.out; omega))
              have hOt := HOt.out
              rw [HTt.out] at hOt
              obtain ⟨Rt, ct, hvt, hRt, hct⟩ := hOt.form
              rw [u8s_len] at hvt hRt hct
              obtain ⟨kt, hkt⟩ : ∃ kt, kt = (turned 4 s).length := ⟨_, rfl⟩
              rw [← hkt] at hvt hRt hct
              have HRtb := hid (fun a (ha : Rt = some a) => (hOt.lt a.block (by rw [hvt, ha]; rfl)).1)
              subst hvt
              have c0 := HA.out.cell? 0
              have c1 := HA.out.cell? 1
              simp only [List.getElem?_cons_zero, List.getElem?_cons_succ] at c0 c1
              have HBel := hid (HKp.out.toBelow (C := wo.heap.size) (by have := H10.out; omega) (by have := H10.out; omega))
              have HB3 := hid (show Below wo.heap.size wo wr from (show Below wo.heap.size wo W2 from by rw [HW2.out]; exact ((Below.refl _ _).alloc (Nat.le_refl _) _).alloc (by simp) _).trans HBel.out)
              obtain ⟨ys, y1, y2, y3⟩ := HSS.out
              have lo := World.ownsRow.lt y1
              have HY := hid (show wr.ownsRow B 97 2 (.slice A7 tl c7) tl (flatT T ys) from by have := ownsRow_below y1 HB3.out (fun g hg => (lo g hg).2); rwa [← HTL.out] at this)
              have hs3 : B ≤ wr.heap.size := by have := HB3.out.size; omega
              have HKT := hid hkt
              have HRt := hid hRt
              have HYS := hid (And.intro y1 (And.intro y2 y3))
              have HCT := hid hct
              clear hOt hkt HTt y1 y2 y3 lo hRt
              go_wp2_with ((at_builtin; refine wpList_appE _ rfl _ _ 47 rfl B 97 i97 _ 32 Try.underlying47 yi yz0 yz1 yz2 rfl _ tl (flatT T ys) rfl (World.ownsRow.alloc HY.out _) ⟨wr.heap.size, 0, none⟩ 1 [.int .i64 ((4 : Nat) : Int), .slice Rt kt ct] rfl rfl (cell_twoE _ _ _ _ _ rfl) (by simp [Value.oneCell']) (by simp only [maxLen]; omega) (by omega) (by simp; omega) ?_))
              intro v7 w7 hO7 hg7 ho7
              have HS7 := hid (show SegsSt w7 B v7 (T ++ [(4, turned 4 s)]) from by
                obtain ⟨y1, y2, y3⟩ := HYS.out
                refine SegsSt.app (wr := wo) (w5 := wr) (R := Rt) (c' := ct) y1 y2 y3 (fun g hg => HB3.out.block g hg) HB3.out.size (by rw [← HKT.out]; exact HRt.out) (by rw [← HKT.out]; exact HCT.out) (fun _ a ha => by have := HRtb.out a ha; have := H10.out; omega) ?_ hg7 (by simpa using ho7)
                rw [← HKT.out, ← HTL.out]; exact hO7)
              have HB7 := hid ((HB.out.trans (HB3.out.mono HB.out.size)).trans ((((Below.refl wr.heap.size wr).alloc (Nat.le_refl _) (.cells #[.int .i64 ((4 : Nat) : Int), .slice Rt kt ct] 97)).mono (show w.heap.size ≤ wr.heap.size from by have := HBe.out; omega)).grown hg7 (by have := HBe.out; simp; omega) (fun g hg => by have := (World.ownsRow.lt HY.out g hg).1; have := HBe.out; omega)))
              have HTO7 := hid (show ∀ x ∈ T ++ [(4, turned 4 s)], SegOk x ∧ Prn x.2 from fun x hx => by
                rcases List.mem_append.1 hx with hx | hx
                · exact HTO.out x hx
                · rw [List.mem_singleton.1 hx]; exact turned_ok 4 s (by unfold IsMode; omega))
              have ht7 : (T ++ [(4, turned 4 s)]).length ≤ 4 := by rw [List.length_append, List.length_singleton, ← HTL.out]; omega
              clear hO7 hg7 ho7
              go_wp2_with fail
              go_roundw
              case rel => first | exact ⟨i + 1, _, by omega, by go_num, ht7, HTO7, HS7, HB7⟩ | ((repeat apply Exists.intro); exact ⟨⟨i + 1, _, by omega, rfl, ht7, HTO7, HS7, HB7⟩, rfl⟩)
              case measure => first | (simp [intOf]; done) | (simp [intOf]; omega)
    · obtain rfl : i = n := by omega
      have hlt' : ¬ (i : Int) < (i : Int) := by omega
      have HSM := hid (HSS.out.seg HTL.out)
      clear htl
      go_wp2_with fail
      go_ret
      exact ⟨A7, tl, c7, T, rfl, HSM.out, by rw [← HTL.out]; exact hT4, HTO.out, HB.out⟩
end Go.Proofs.Ytpffffhgmhpkiaa
