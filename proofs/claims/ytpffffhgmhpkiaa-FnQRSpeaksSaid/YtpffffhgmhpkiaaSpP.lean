/- QR codes: spec.QRWordsOf: the data words of segments. -/
import Derived.Test.YtpffffhgmhpkiaaSpO
import Derived.Test.YtpffffhgmhpkiaaSpL
import Derived.Test.YtpffffhgmhpkiaaSpM
namespace Go.Proofs.Ytpffffhgmhpkiaa
open Go.RowKit
set_option linter.unusedVariables false
set_option linter.unusedSimpArgs false

theorem numB_zero (k : Nat) : numB 0 k = List.replicate k false := by
  apply List.ext_getElem
  · simp [numB]
  · intro i h1 h2
    simp [numB]
theorem qrPads_succ (j : Nat) : qrPads (j + 1) = qrPads j ++ [if j % 2 = 0 then 236 else 17] := by simp [qrPads, List.range_succ]
def WordsOut (v : Nat) (S : List (Nat × List Nat)) (w : World) (e : Ending) (w' : World) : Prop :=
  ((∃ x, e = .returned (.tuple #[x, .bool false])) ∨ ∃ v' room, e = .returned (.tuple #[v', .bool true]) ∧ room ≤ 3706 ∧ lenD (strD v S) ≤ 8 * room ∧ Own w' w.heap.size 5 v' (u8s (wordsQ (bitsD (strD v S)) room))) ∧ Below w.heap.size w w'
set_option maxRecDepth 20000 in
set_option maxHeartbeats 16000000 in
theorem wordsOfQ (v lv : Nat) (S : List (Nat × List Nat)) (A : Option Addr) (n c : Nat) (w : World) (h1 : 1 ≤ v) (hv : v ≤ 40) (hlv : lv < 4) (hS : ∀ x ∈ S, SegOk x) (hSl : S.length ≤ 4) (hM : SegM w A n S) :
    Calls Try.prog 22 #[.slice A n c, .int .i64 v, .int .i64 lv] w (WordsOut v S w) := by
  obtain ⟨i5, gi, gz0, gz1, gz2⟩ := info_of info5
  have sq := streamQ v S A n c w hv hS hSl hM
  have wq := fun W => wordsNumQ v lv hlv h1 hv W
  have hLl : (bitsD (strD v S)).length ≤ 8080 := by rw [bitsD_len]; have := strD_len v S hS; omega
  have hLD : (bitsD (strD v S)).length = lenD (strD v S) := bitsD_len _
  obtain ⟨L, hL⟩ : ∃ L, L = bitsD (strD v S) := ⟨_, rfl⟩
  unfold StreamOut at sq
  rw [← hL] at sq hLl hLD
  have HL := hid hL
  have HLD := hid hLD
  obtain ⟨B, hB⟩ : ∃ B, B = w.heap.size := ⟨_, rfl⟩
  rw [← hB] at sq
  have HBe := hid hB
  have IX := hid (fun (i : Nat) (hi : i < 2) (w : World) => show (Instr.index 105 (.agg #[.int .u8 236, .int .u8 17]) (.int .i64 (i : Nat))).run Try.prog w = .ok (.int .u8 ((if i = 0 then 236 else 17 : Nat) : Int)) w from by
    obtain rfl | rfl : i = 0 ∨ i = 1 := by omega
    · kernel_rfl
    · kernel_rfl)
  clear hS hM hL hLD hB
  go_enter Try.func22, Try.ntmps22
  go_wp2_with fail
  refine sq.mono ?_
  rintro e w1 ⟨v1, rfl, hO1, hb1⟩
  obtain ⟨A1, c1, hv1, _, _⟩ := hO1.form
  obtain ⟨ln, hln⟩ : ∃ ln, ln = L.length := ⟨_, rfl⟩
  rw [bools_len, ← hln] at hv1
  subst hv1
  have HO1 := hid hO1
  have HB1 := hid hb1
  have HLN := hid hln
  rw [← hln] at hLl
  clear sq hO1 hb1 hln
  go_wp2_with fail
  refine (wq _).mono ?_
  rintro e w2 ⟨⟨z, rfl, hz1, hz2⟩, hb2⟩
  have HO2 := hid (HO1.out.below hb2 (fun g hg => (HO1.out.lt g hg).2))
  have HB2 := hid (HB1.out.trans (hb2.mono (by have := HB1.out.size; have := HBe.out; omega)))
  clear wq hb2 HO1 HB1
  by_cases hbig : 8 * z < (ln : Int)
  · go_wp2_with fail
    go_ret2
    exact ⟨.inl ⟨_, rfl⟩, by rw [← HBe.out]; exact HB2.out⟩
  · obtain ⟨room, rfl⟩ : ∃ room : Nat, z = room := ⟨z.toNat, by omega⟩
    have hB2 : B ≤ w2.heap.size := by have := HB2.out.size; have := HBe.out; omega
    have hroom : ln ≤ 8 * room := by omega
    obtain ⟨mn, hmn⟩ : ∃ mn, mn = min 4 (8 * room - ln) := ⟨_, rfl⟩
    have HMN := hid hmn
    clear hmn
    have hmn4 : mn ≤ 4 := by have := HMN.out; omega
    have tq := hid (fun V (hO : Own V B 4 (.slice A1 ln c1) (bools L)) (hB : B ≤ V.heap.size) => show Calls Try.prog 49 #[.slice A1 ln c1, .int .i64 0, .int .i64 (mn : Nat)] V _ from addQ 0 mn B _ L V hO (by omega) (by omega) (by have := HLN.out; omega) hB)
    by_cases h4 : (4 : Int) ≤ 8 * (room : Int) - (ln : Int)
    · have hm4 : mn = 4 := by have := HMN.out; omega
      have tq4 := hid (show Calls Try.prog 49 #[.slice A1 ln c1, .int .i64 0, .int .i64 4] w2 (AddOut B (L ++ numB 0 mn) (.slice A1 ln c1) w2) from by have := tq.out w2 HO2.out hB2; rw [hm4] at this ⊢; exact this)
      clear hm4
      go_wp2_with fail
      refine tq4.out.mono ?_
      rintro e w3 ⟨v3, rfl, hO3, hF3⟩
      have HO3 := hid hO3
      have HB3 := hid (HB2.out.trans (hF3.toBelow (by have := HBe.out; omega) (fun g hg => by have := (HO2.out.lt g hg).1; have := HBe.out; omega)))
      have hB3 : B ≤ w3.heap.size := Nat.le_trans hB2 hF3.size
      obtain ⟨A3, c3, hv3, _, _⟩ := hO3.form
      rw [bools_len, List.length_append, numB_len, ← HLN.out] at hv3
      obtain ⟨l3, hl3⟩ : ∃ l3, l3 = ln + mn := ⟨_, rfl⟩
      rw [← hl3] at hv3
      subst hv3
      obtain ⟨r, hr⟩ : ∃ r, r = (8 - l3 % 8) % 8 := ⟨_, rfl⟩
      have hr' : ((8 : Int) - (l3 : Int) % 8) % 8 = (r : Int) := by omega
      have hl3l : l3 ≤ 9000 := by omega
      have hr8 : r < 8 := by omega
      have HL3 := hid hl3
      have HRr := hid hr
      have tq2 := hid (show Calls Try.prog 49 #[.slice A3 l3 c3, .int .i64 0, .int .i64 (r : Nat)] w3 _ from addQ 0 r B _ (L ++ numB 0 mn) w3 HO3.out (by omega) (by omega) (by rw [List.length_append, numB_len, ← HLN.out]; omega) hB3)
      clear hO3 hF3 tq HO2 HB2 hl3 hr
      go_wp2_with fail
      refine tq2.out.mono ?_
      rintro e w4 ⟨v4, rfl, hO4, hF4⟩
      have HB4 := hid (HB3.out.trans (hF4.toBelow (by have := HBe.out; omega) (fun g hg => by have := (HO3.out.lt g hg).1; have := HBe.out; omega)))
      have hB4 : B ≤ w4.heap.size := Nat.le_trans hB3 hF4.size
      have hfill : L ++ numB 0 mn ++ numB 0 r = fillB L room := by
        unfold fillB
        rw [numB_zero, numB_zero, ← HLN.out, ← HMN.out, List.length_append, List.length_replicate, ← HLN.out, ← HL3.out, ← HRr.out]
      rw [hfill] at hO4
      obtain ⟨A4, c4, hv4, hR4, _⟩ := hO4.form
      obtain ⟨l4, hl4⟩ : ∃ l4, l4 = (fillB L room).length := ⟨_, rfl⟩
      have hl4b : l4 = l3 + r := by rw [hl4, ← hfill, List.length_append, List.length_append, numB_len, numB_len, ← HLN.out, ← HL3.out]
      have hfl := fill_len L room (by rw [← HLN.out]; exact hroom)
      rw [bools_len, ← hl4] at hv4 hR4
      subst hv4
      have bq := bytesQ (fillB L room) A4 l4 c4 w4 hR4 hl4 (by omega)
      obtain ⟨nb, hnb⟩ : ∃ nb, nb = (fillB L room).length / 8 := ⟨_, rfl⟩
      have hnb2 : nb ≤ room := by omega
      have hlb : (bytesB (fillB L room)).length = nb := by rw [hnb]; simp [bytesB]
      unfold BytesO at bq
      rw [← hnb] at bq
      have HNB := hid hnb
      have HLB := hid hlb
      clear tq2 hO4 hF4 HO3 HB3 hR4 hl4 hl4b hfl hfill hnb hlb
      go_wp2_with fail
      refine bq.mono ?_
      rintro e w5 ⟨g, rfl, hA5, hg5, hb5⟩
      have HB5 := hid (show Below w.heap.size w w5 from by have := HB4.out.trans (hb5.mono (by have := HB4.out.size; omega)); rwa [HBe.out] at this)
      have HO5 := hid (show Own w5 B 5 (.slice (some ⟨g, 0, none⟩) nb nb) (u8s (bytesB (fillB L room) ++ qrPads 0)) from by
        have := Own.ofArr (B := B) hA5 (by omega) (by rw [u8s_len, HLB.out]; simp only [maxLen]; omega)
        rw [u8s_len, HLB.out] at this
        simpa [qrPads] using this)
      have hB5 : B ≤ w5.heap.size := by have := hb5.size; omega
      clear bq hA5 hb5 HB4
      go_wp2_with fail
      go_loopw [11, 12] (fun ov iv wr => ∃ j : Nat, nb + j ≤ room ∧ iv = .int .i64 (j : Nat) ∧ Hid (Own wr B 5 ov (u8s (bytesB (fillB L room) ++ qrPads j))) ∧ Hid (Below w.heap.size w wr) ∧ B ≤ wr.heap.size) (fun _ iv _ => room - (intOf iv).toNat)
      case atStart => exact ⟨0, by omega, rfl, HO5, HB5, hB5⟩
      case round =>
        clear HO5 HB5 hB5
        obtain ⟨j, hj, rfl, HO, HB, hBr⟩ := hrel
        obtain ⟨A6, c6, hv6, _, _⟩ := HO.out.form
        obtain ⟨l6, hl6⟩ : ∃ l6, l6 = (u8s (bytesB (fillB L room) ++ qrPads j)).length := ⟨_, rfl⟩
        have hl6b : l6 = nb + j := by rw [hl6, u8s_len, List.length_append, HLB.out]; simp [qrPads]
        rw [← hl6] at hv6
        subst hv6
        have HL6 := hid hl6
        clear hl6
        by_cases hlt : nb + j < room
        · have hlt' : (l6 : Int) < (room : Int) := by omega
          obtain ⟨q, hq⟩ : ∃ q, q = j % 2 := ⟨_, rfl⟩
          have hq' : (j : Int) % 2 = (q : Int) := by omega
          have hix := IX.out q (by omega)
          obtain ⟨x, hx⟩ : ∃ x, x = (if q = 0 then 236 else 17 : Nat) := ⟨_, rfl⟩
          rw [← hx] at hix
          have HX := hid (show qrPads (j + 1) = qrPads j ++ [x] from by rw [qrPads_succ, hx, hq])
          have hxl : x < 256 := by rw [hx]; split <;> omega
          have HM1 := hid (show (u8s (bytesB (fillB L room) ++ qrPads j)).length + 1 ≤ maxLen ∧ ((u8s (bytesB (fillB L room) ++ qrPads j)).length + 1) * 1 ≤ 140737488355328 from by rw [← HL6.out]; simp only [maxLen]; omega)
          have HL6b := hid hl6b
          clear hq hx hl6b
          go_wp2_with ((at_builtin; refine wpList_app _ rfl _ _ 22 rfl B 5 i5 _ 1 Try.underlying22 gi gz0 gz1 gz2 rfl _ (u8s (bytesB (fillB L room) ++ qrPads j)) rfl (HO.out.alloc _) _ 1 1 [.int .u8 ((x : Nat))] rfl (Rd.one' _ _ _ _ (by first | rfl | (simp; done))) (by intro u hu; rw [List.mem_singleton.1 hu]; rfl) HM1.out.1 HM1.out.2 (Nat.le_trans hBr (by simp <;> omega)) ?_))
          intro v7 w7 hO7 hg7 ho7
          have HO7 := hid (show Own w7 B 5 v7 (u8s (bytesB (fillB L room) ++ qrPads (j + 1))) from by rw [HX.out, ← List.append_assoc, u8s_app]; exact hO7)
          have HB7 := hid ((HB.out.alloc HB.out.size (.cells #[.int .u8 (x : Nat)] 5)).grown hg7 (by have := HB.out.size; simp; omega) (fun g hg => by have := (HO.out.lt g hg).1; have := HBe.out; omega))
          have hB7 : B ≤ w7.heap.size := Nat.le_trans (Nat.le_trans hBr (by simp)) hg7.size
          clear hO7 hg7 ho7 HO HB
          go_wp2_with fail
          go_roundw
          case rel => first | exact ⟨j + 1, by omega, by go_num, HO7, HB7, hB7⟩ | ((repeat apply Exists.intro); exact ⟨⟨j + 1, by omega, rfl, HO7, HB7, hB7⟩, rfl⟩)
          case measure => first | (simp [intOf]; done) | (simp [intOf]; omega)
        · have hlt' : ¬ (l6 : Int) < (room : Int) := by omega
          have hje : j = room - nb := by omega
          have HO6 := hid (show Own wr B 5 (.slice A6 l6 c6) (u8s (wordsQ L room)) from by
            have := HO.out
            rw [hje, HNB.out] at this
            exact this)
          clear hje HO hl6b
          go_wp2_with fail
          go_ret2
          exact ⟨.inr ⟨_, room, rfl, by omega, by rw [← HLD.out, ← HLN.out]; exact hroom, by rw [← HBe.out, ← HL.out]; exact HO6.out⟩, HB.out⟩
    · have hm4 : 8 * (room : Int) - (ln : Int) = (mn : Int) := by have := HMN.out; omega
      have tq4 := hid (tq.out w2 HO2.out hB2)
      go_wp2_with fail
      refine tq4.out.mono ?_
      rintro e w3 ⟨v3, rfl, hO3, hF3⟩
      have HO3 := hid hO3
      have HB3 := hid (HB2.out.trans (hF3.toBelow (by have := HBe.out; omega) (fun g hg => by have := (HO2.out.lt g hg).1; have := HBe.out; omega)))
      have hB3 : B ≤ w3.heap.size := Nat.le_trans hB2 hF3.size
      obtain ⟨A3, c3, hv3, _, _⟩ := hO3.form
      rw [bools_len, List.length_append, numB_len, ← HLN.out] at hv3
      obtain ⟨l3, hl3⟩ : ∃ l3, l3 = ln + mn := ⟨_, rfl⟩
      rw [← hl3] at hv3
      subst hv3
      obtain ⟨r, hr⟩ : ∃ r, r = (8 - l3 % 8) % 8 := ⟨_, rfl⟩
      have hr' : ((8 : Int) - (l3 : Int) % 8) % 8 = (r : Int) := by omega
      have hl3l : l3 ≤ 9000 := by omega
      have hr8 : r < 8 := by omega
      have HL3 := hid hl3
      have HRr := hid hr
      have tq2 := hid (show Calls Try.prog 49 #[.slice A3 l3 c3, .int .i64 0, .int .i64 (r : Nat)] w3 _ from addQ 0 r B _ (L ++ numB 0 mn) w3 HO3.out (by omega) (by omega) (by rw [List.length_append, numB_len, ← HLN.out]; omega) hB3)
      clear hO3 hF3 tq HO2 HB2 hl3 hr
      go_wp2_with fail
      refine tq2.out.mono ?_
      rintro e w4 ⟨v4, rfl, hO4, hF4⟩
      have HB4 := hid (HB3.out.trans (hF4.toBelow (by have := HBe.out; omega) (fun g hg => by have := (HO3.out.lt g hg).1; have := HBe.out; omega)))
      have hB4 : B ≤ w4.heap.size := Nat.le_trans hB3 hF4.size
      have hfill : L ++ numB 0 mn ++ numB 0 r = fillB L room := by
        unfold fillB
        rw [numB_zero, numB_zero, ← HLN.out, ← HMN.out, List.length_append, List.length_replicate, ← HLN.out, ← HL3.out, ← HRr.out]
      rw [hfill] at hO4
      obtain ⟨A4, c4, hv4, hR4, _⟩ := hO4.form
      obtain ⟨l4, hl4⟩ : ∃ l4, l4 = (fillB L room).length := ⟨_, rfl⟩
      have hl4b : l4 = l3 + r := by rw [hl4, ← hfill, List.length_append, List.length_append, numB_len, numB_len, ← HLN.out, ← HL3.out]
      have hfl := fill_len L room (by rw [← HLN.out]; exact hroom)
      rw [bools_len, ← hl4] at hv4 hR4
      subst hv4
      have bq := bytesQ (fillB L room) A4 l4 c4 w4 hR4 hl4 (by omega)
      obtain ⟨nb, hnb⟩ : ∃ nb, nb = (fillB L room).length / 8 := ⟨_, rfl⟩
      have hnb2 : nb ≤ room := by omega
      have hlb : (bytesB (fillB L room)).length = nb := by rw [hnb]; simp [bytesB]
      unfold BytesO at bq
      rw [← hnb] at bq
      have HNB := hid hnb
      have HLB := hid hlb
      clear tq2 hO4 hF4 HO3 HB3 hR4 hl4 hl4b hfl hfill hnb hlb
      go_wp2_with fail
      refine bq.mono ?_
      rintro e w5 ⟨g, rfl, hA5, hg5, hb5⟩
      have HB5 := hid (show Below w.heap.size w w5 from by have := HB4.out.trans (hb5.mono (by have := HB4.out.size; omega)); rwa [HBe.out] at this)
      have HO5 := hid (show Own w5 B 5 (.slice (some ⟨g, 0, none⟩) nb nb) (u8s (bytesB (fillB L room) ++ qrPads 0)) from by
        have := Own.ofArr (B := B) hA5 (by omega) (by rw [u8s_len, HLB.out]; simp only [maxLen]; omega)
        rw [u8s_len, HLB.out] at this
        simpa [qrPads] using this)
      have hB5 : B ≤ w5.heap.size := by have := hb5.size; omega
      clear bq hA5 hb5 HB4
      go_wp2_with fail
      go_loopw [11, 12] (fun ov iv wr => ∃ j : Nat, nb + j ≤ room ∧ iv = .int .i64 (j : Nat) ∧ Hid (Own wr B 5 ov (u8s (bytesB (fillB L room) ++ qrPads j))) ∧ Hid (Below w.heap.size w wr) ∧ B ≤ wr.heap.size) (fun _ iv _ => room - (intOf iv).toNat)
      case atStart => exact ⟨0, by omega, rfl, HO5, HB5, hB5⟩
      case round =>
        clear HO5 HB5 hB5
        obtain ⟨j, hj, rfl, HO, HB, hBr⟩ := hrel
        obtain ⟨A6, c6, hv6, _, _⟩ := HO.out.form
        obtain ⟨l6, hl6⟩ : ∃ l6, l6 = (u8s (bytesB (fillB L room) ++ qrPads j)).length := ⟨_, rfl⟩
        have hl6b : l6 = nb + j := by rw [hl6, u8s_len, List.length_append, HLB.out]; simp [qrPads]
        rw [← hl6] at hv6
        subst hv6
        have HL6 := hid hl6
        clear hl6
        by_cases hlt : nb + j < room
        · have hlt' : (l6 : Int) < (room : Int) := by omega
          obtain ⟨q, hq⟩ : ∃ q, q = j % 2 := ⟨_, rfl⟩
          have hq' : (j : Int) % 2 = (q : Int) := by omega
          have hix := IX.out q (by omega)
          obtain ⟨x, hx⟩ : ∃ x, x = (if q = 0 then 236 else 17 : Nat) := ⟨_, rfl⟩
          rw [← hx] at hix
          have HX := hid (show qrPads (j + 1) = qrPads j ++ [x] from by rw [qrPads_succ, hx, hq])
          have hxl : x < 256 := by rw [hx]; split <;> omega
          have HM1 := hid (show (u8s (bytesB (fillB L room) ++ qrPads j)).length + 1 ≤ maxLen ∧ ((u8s (bytesB (fillB L room) ++ qrPads j)).length + 1) * 1 ≤ 140737488355328 from by rw [← HL6.out]; simp only [maxLen]; omega)
          have HL6b := hid hl6b
          clear hq hx hl6b
          go_wp2_with ((at_builtin; refine wpList_app _ rfl _ _ 22 rfl B 5 i5 _ 1 Try.underlying22 gi gz0 gz1 gz2 rfl _ (u8s (bytesB (fillB L room) ++ qrPads j)) rfl (HO.out.alloc _) _ 1 1 [.int .u8 ((x : Nat))] rfl (Rd.one' _ _ _ _ (by first | rfl | (simp; done))) (by intro u hu; rw [List.mem_singleton.1 hu]; rfl) HM1.out.1 HM1.out.2 (Nat.le_trans hBr (by simp <;> omega)) ?_))
          intro v7 w7 hO7 hg7 ho7
          have HO7 := hid (show Own w7 B 5 v7 (u8s (bytesB (fillB L room) ++ qrPads (j + 1))) from by rw [HX.out, ← List.append_assoc, u8s_app]; exact hO7)
          have HB7 := hid ((HB.out.alloc HB.out.size (.cells #[.int .u8 (x : Nat)] 5)).grown hg7 (by have := HB.out.size; simp; omega) (fun g hg => by have := (HO.out.lt g hg).1; have := HBe.out; omega))
          have hB7 : B ≤ w7.heap.size := Nat.le_trans (Nat.le_trans hBr (by simp)) hg7.size
          clear hO7 hg7 ho7 HO HB
          go_wp2_with fail
          go_roundw
          case rel => first | exact ⟨j + 1, by omega, by go_num, HO7, HB7, hB7⟩ | ((repeat apply Exists.intro); exact ⟨⟨j + 1, by omega, rfl, HO7, HB7, hB7⟩, rfl⟩)
          case measure => first | (simp [intOf]; done) | (simp [intOf]; omega)
        · have hlt' : ¬ (l6 : Int) < (room : Int) := by omega
          have hje : j = room - nb := by omega
          have HO6 := hid (show Own wr B 5 (.slice A6 l6 c6) (u8s (wordsQ L room)) from by
            have := HO.out
            rw [hje, HNB.out] at this
            exact this)
          clear hje HO hl6b
          go_wp2_with fail
          go_ret2
          exact ⟨.inr ⟨_, room, rfl, by omega, by rw [← HLD.out, ← HLN.out]; exact hroom, by rw [← HBe.out, ← HL.out]; exact HO6.out⟩, HB.out⟩
end Go.Proofs.Ytpffffhgmhpkiaa
