/- QR codes: impl.QRRead, and FnQRReads: what was written is read, though some bits are wrong. -/
import Derived.Test.YtpffffhgmhpkiaaQaX
import Derived.Test.YtpffffhgmhpkiaaQaY
namespace Go.Proofs.Ytpffffhgmhpkiaa
open Go.RowKit
set_option linter.unusedVariables false
set_option linter.unusedSimpArgs false

set_option maxRecDepth 20000 in
theorem verNum1 (q v : Nat) (hv : v ≤ 40) (w : World) (h0 : w.cell? ⟨q, 0, none⟩ = some (.int .i64 v)) : Calls Try.prog 41 #[.pointer (some ⟨q, 0, none⟩)] w fun e w' => e = .returned (.int .i64 (v : Int)) ∧ w = w' := by
  go_enter Try.func41, Try.ntmps41
  go_wp2_with fail
  go_ret
  exact ⟨rfl, rfl⟩
set_option maxRecDepth 20000 in
theorem fmtLev (q a : Nat) (w : World) (h0 : w.cell? ⟨q, 0, none⟩ = some (.int .i64 a)) : Calls Try.prog 42 #[.pointer (some ⟨q, 0, none⟩)] w fun e w' => e = .returned (.int .i64 (a : Int)) ∧ w = w' := by
  go_enter Try.func42, Try.ntmps42
  go_wp2_with fail
  go_ret
  exact ⟨rfl, rfl⟩
set_option maxRecDepth 20000 in
theorem levBits (a : Nat) (w : World) : Calls Try.prog 43 #[.int .i64 a] w fun e w' => e = .returned (.int .i64 (a : Int)) ∧ w = w' := by
  go_enter Try.func43, Try.ntmps43
  go_wp2_with fail
  go_ret
  exact ⟨rfl, rfl⟩
set_option maxRecDepth 20000 in
theorem fmtMsk (q b : Nat) (w : World) (h0 : w.cell? ⟨q, 1, none⟩ = some (.int .u8 b)) : Calls Try.prog 44 #[.pointer (some ⟨q, 0, none⟩)] w fun e w' => e = .returned (.int .u8 (b : Int)) ∧ w = w' := by
  go_enter Try.func44, Try.ntmps44
  go_wp2_with fail
  go_ret
  exact ⟨rfl, rfl⟩
theorem results_tmp4 {fn : Func} {t u v x : Tmp} (h : fn.results = #[.tmp t, .tmp u, .tmp v, .tmp x]) (tmps : Array Value) (P : Program) (w : World) :
    (results fn tmps).run P w = .ok (.tuple #[tmps.getD t undef, tmps.getD u undef, tmps.getD v undef, tmps.getD x undef]) w := by
  simp [results, h]
def ReadOk (v a b : Nat) (w : World) (e : Ending) (w' : World) : Prop := e = .returned (.tuple #[.int .i64 v, .int .i64 a, .int .i64 b, .bool true]) ∧ Below w.heap.size w w'
theorem far_cell {w : World} {p q : Nat} {i j : Nat} {x : Value} (v : Value) (h : w.cell? ⟨q, j, none⟩ = some x) (hij : i ≠ j) : (w.setCell ⟨p, i, none⟩ v).cell? ⟨q, j, none⟩ = some x :=
  (World.cell?_setCell_other (w := w) (a := ⟨p, i, none⟩) (b := ⟨q, j, none⟩) (v := v) (fun e => hij (by injection e))).trans h

set_option maxRecDepth 20000 in
set_option maxHeartbeats 8000000 in
theorem readQ (v k a b n c : Nat) (A : Option Addr) (R : Nat → Nat → Bool) (W : Nat → Nat → Prop) (z : Nat → Nat → Nat) (w : World) (h1 : 1 ≤ v) (h2 : v ≤ 40) (hn : n = 17 + 4 * v) (hX : RdRows w A n (brow R n)) (hN : Near v (fb k) (vtab.getD (v - 7) 0) W R) (hk : k < 32) (hka : a = k / 8) (hkb : b = k % 8)
    (hW : ∀ i, i < 3 → ∀ x, W i x → x = z i 0 ∨ x = z i 1 ∨ x = z i 2) :
    Calls Try.prog 19 #[.slice A n c] w (ReadOk v a b w) := by
  obtain ⟨rs, hrs⟩ : ∃ rs, rs = (n + 31) / 32 := ⟨_, rfl⟩
  have hrs32 : rs ≤ 32 := by omega
  have pq := parserQ A c v n rs R w h1 h2 hn hX hrs
  have F1 := hid (show far (msb (g1 (allB R n)) 15 15) (fb k) ≤ 3 from by rw [hn]; exact reads_f1 hN h1 (fb_lt k) (hW 0 (by omega)))
  have F2 := hid (show far (msb (g2 (allB R n) n) 15 15) (fb k) ≤ 3 from by rw [hn]; exact reads_f2 hN h1 (fb_lt k) (hW 1 (by omega)))
  have F3 := hid (fun (h7 : 7 ≤ v) => show far (msb (g3 (allB R n) n) 18 18) (tb (v - 7)) ≤ 3 from by rw [hn]; exact reads_v hN h7 (vtab_lt _) (hW 2 (by omega)))
  have VQ := hid (fun p q g ws V (hP : Arr V p 127 (parC q none none)) (hM : IsMat V q g 175 218 n n rs ws (allB R n)) => show Calls Try.prog 39 #[.pointer (some ⟨p, 0, none⟩)] V (VerRead v p V) from by
    by_cases hv : v ≤ 6
    · exact readVerLow p q g n rs v ws _ V hP hM hn h1 hv
    · exact readVerHigh p q g n rs v ws _ V hP hM hn (by omega) h2 hrs32 (F3.out (by omega)))
  have FQ := hid (fun p q g ws vo V (hP : Arr V p 127 (parC q vo none)) (hM : IsMat V q g 175 218 n n rs ws (allB R n)) => readFmt p q g n rs k v ws _ vo V hP hM hn h1 h2 hrs32 hk F1.out F2.out)
  have HKA := hid (show ((k : Int) / 8) = (a : Int) by omega)
  have HKB := hid (show ((k : Int) % 8) = (b : Int) by omega)
  have hb8 : b < 8 := by omega
  clear hX hN hW F1 F2 F3 hrs hka hkb hn
  unfold ReadOk
  go_enter Try.func19, Try.ntmps19
  go_wp2_with fail
  refine pq.mono ?_
  rintro e w1 ⟨p, q, g, ws, rfl, hA, hqp, hg, hM, hb1⟩
  have vq := VQ.out p q g ws w1 hA hM
  have HA := hid hA
  have HM := hid hM
  have HB1 := hid hb1
  clear pq hA hM hb1 VQ
  go_wp2_with fail
  refine vq.mono ?_
  rintro e w2 ⟨qv, w1', rfl, hc0, hqv, hb2, hw2⟩
  have H2 := hid (show ∃ vo, Arr w2 p 127 (parC q vo none) ∧ IsMat w2 q g 175 218 n n rs ws (allB R n) ∧ w2.cell? ⟨qv, 0, none⟩ = some (.int .i64 v) ∧ qv < w2.heap.size ∧ Below w.heap.size w w2 from by
    have hA1 := HA.out.below hb2 HA.out.lt
    have hM1 := HM.out.below hb2 HM.out.lt
    have hB1 := HB1.out.trans (hb2.mono HB1.out.size)
    rcases hw2 with rfl | rfl
    · exact ⟨none, hA1, hM1, hc0, hqv, hB1⟩
    · refine ⟨some ⟨qv, 0, none⟩, ?_, hM1.below ((Below.refl p w1').setCell (Nat.le_refl _) _) hqp, far_cell _ hc0 (by omega), by rw [World.size_setCell]; exact hqv, hB1.setCell (by have := HM.out.gq; simp; omega) _⟩
      have := hA1.set 1 (.pointer (some ⟨qv, 0, none⟩))
      exact this)
  clear vq hc0 hqv hb2 hw2 HA HB1
  obtain ⟨vo, hA2, hM2, hc0, hqv, hB2⟩ := H2.out
  have fq := FQ.out p q g ws vo w2 hA2 hM2
  have HC0 := hid hc0
  have HB2 := hid hB2
  clear hA2 hM2 hc0 hB2 H2 FQ
  go_wp2_with fail
  refine fq.mono ?_
  rintro e w4 ⟨qf, w3, rfl, hf0, hf1, hb3, rfl⟩
  have c1 := far_cell (p := p) (i := 2) (.pointer (some ⟨qf, 0, none⟩)) ((hb3.cell (p := ⟨qv, 0, none⟩) hqv).trans HC0.out) (by omega)
  rw [HKA.out] at hf0
  rw [HKB.out] at hf1
  have c2 := far_cell (p := p) (i := 2) (.pointer (some ⟨qf, 0, none⟩)) hf0 (by omega)
  have c3 := far_cell (p := p) (i := 2) (.pointer (some ⟨qf, 0, none⟩)) hf1 (by omega)
  have HB4 := hid (show Below w.heap.size w (w3.setCell ⟨p, 2, none⟩ (.pointer (some ⟨qf, 0, none⟩))) from (HB2.out.trans (hb3.mono HB2.out.size)).setCell (by have := HM.out.gq; simp; omega) _)
  generalize w3.setCell ⟨p, 2, none⟩ (.pointer (some ⟨qf, 0, none⟩)) = w4 at *
  clear fq hf0 hf1 hb3 HC0 HB2 HM
  go_wp2_with fail
  refine (verNum1 qv v h2 _ c1).mono ?_
  rintro e w5 ⟨rfl, rfl⟩
  go_wp2_with fail
  refine (fmtLev qf a _ c2).mono ?_
  rintro e w5 ⟨rfl, rfl⟩
  go_wp2_with fail
  refine (levBits a _).mono ?_
  rintro e w5 ⟨rfl, rfl⟩
  go_wp2_with fail
  refine (fmtMsk qf b _ c3).mono ?_
  rintro e w5 ⟨rfl, rfl⟩
  go_wp2_with fail
  refine bodyPost_ret (results_tmp4 rfl _ _ _) rfl ?_
  exact ⟨rfl, HB4.out⟩
end Go.Proofs.Ytpffffhgmhpkiaa
namespace Go.Proofs.Ytpffffhgmhpkiaa
open Go.RowKit
set_option linter.unusedVariables false
set_option linter.unusedSimpArgs false

theorem wr_of (zs : List Int) (h : zs.length = 12) (hz : ∀ x ∈ zs, 0 ≤ x ∧ x ≤ 255) : ∃ f : Nat → Nat → Nat, zs.map (Value.int .u8) = wrL f ∧ ∀ i j, f i j < 256 := by
  have e : ∀ i, (((zs.getD i 0).toNat : Nat) : Int) = zs.getD i 0 ∧ (zs.getD i 0).toNat < 256 := fun i => by
    rw [List.getD]
    cases hi : zs[i]? with
    | none => simp
    | some x =>
      have := hz x (List.mem_of_getElem? hi)
      simp only [Option.getD_some]
      omega
  refine ⟨fun i j => (zs.getD (3 * i + j) 0).toNat, ?_, fun i j => (e _).2⟩
  have w : wrL (fun i j => (zs.getD (3 * i + j) 0).toNat) = (List.range 12).map (fun i => Value.int .u8 (((zs.getD i 0).toNat : Nat) : Int)) := rfl
  rw [w]
  apply List.ext_getElem
  · simp [h]
  · intro i h1 h2
    simp only [List.getElem_map, List.getElem_range, (e _).1]
    rw [List.getD, List.getElem?_eq_getElem (by simpa using h1)]
    rfl

set_option maxRecDepth 20000 in
set_option maxHeartbeats 8000000 in
theorem FnQRReads_walk (w : World) (A : Option Addr) (n c : Nat) (zs : List Int) (hR : SlIn w A n c (zs.map (Value.int .u8))) (hz : ∀ x ∈ zs, (Lit.int .u8 x).wf = true)
    (a1 : Int) (u1 : (Lit.int .u8 a1).wf = true) (a2 : Int) (u2 : (Lit.int .u8 a2).wf = true) (a3 : Int) (u3 : (Lit.int .u8 a3).wf = true)
    (ws : List Int) (hwl : ws.length = 12) (hwf : ∀ x ∈ ws, (Lit.int .u8 x).wf = true) :
    Calls Try.prog 4 #[.slice A n c, .int .u8 a1, .int .u8 a2, .int .u8 a3, .agg (ws.map (Value.int .u8)).toArray] w fun e w' => e = .returned (.bool true) ∧ Below w.heap.size w w' := by
  obtain ⟨f, hf, hf256⟩ := wr_of ws hwl (fun x hx => wf_u8 (hwf x hx))
  rw [hf]
  have b1 := wf_u8 u1
  have b2 := wf_u8 u2
  have b3 := wf_u8 u3
  obtain ⟨z1, rfl⟩ : ∃ z : Nat, a1 = z := ⟨a1.toNat, by omega⟩
  obtain ⟨z2, rfl⟩ : ∃ z : Nat, a2 = z := ⟨a2.toNat, by omega⟩
  obtain ⟨z3, rfl⟩ : ∃ z : Nat, a3 = z := ⟨a3.toNat, by omega⟩
  have v1 := fun W => qrVer z1 (by omega) W
  have v2 := fun W => qrLev z2 (by omega) W
  have v3 := fun W => qrMsk z3 (by omega) W
  obtain ⟨v, hv⟩ : ∃ v, v = z1 % 40 + 1 := ⟨_, rfl⟩
  obtain ⟨lv, hlv⟩ : ∃ lv, lv = z2 % 4 := ⟨_, rfl⟩
  obtain ⟨mk, hmk⟩ : ∃ mk, mk = z3 % 8 := ⟨_, rfl⟩
  rw [← hv] at v1
  rw [← hlv] at v2
  rw [← hmk] at v3
  have hv1 : 1 ≤ v := by omega
  have hv40 : v ≤ 40 := by omega
  have hl4 : lv < 4 := by omega
  have hm8 : mk < 8 := by omega
  have FL := hid (fun V (hb : Below w.heap.size w V) => fillQ v hv1 hv40 A n c zs V (by
    obtain ⟨s1, s2, s3, s4⟩ := hR
    exact ⟨s1, s2, s3, (Rd.below ⟨s1, s4⟩ hb).2⟩) (fun x hx => wf_u8 (hz x hx)))
  have hnm := hR.2.1
  have hcm := hR.2.2.1
  obtain ⟨t, ht⟩ : ∃ t, t = 8 * totN v := ⟨_, rfl⟩
  have htl : t ≤ 100000 := by have := tot_le v hv1 hv40; omega
  rw [← ht] at FL
  unfold BitsOut at FL
  have MQ := hid (fun gb (l : List Bool) V hA (hl : l.length = t) => modsQ v lv mk (fb (8 * lv + mk)) gb t l V hv1 hv40 hl4 hm8 rfl hA hl htl)
  unfold ModsOut at MQ
  obtain ⟨nn, hnn⟩ : ∃ nn, nn = 17 + 4 * v := ⟨_, rfl⟩
  rw [← hnn] at MQ
  have WQ := hid (fun G gs R V hr hN => wrongQ v nn (fb (8 * lv + mk)) (vtab.getD (v - 7) 0) G nn gs R f (fun i x => x = f i 0 ∨ x = f i 1 ∨ x = f i 2) V hv1 hv40 hnn hr hN (fun i hi j hj => ⟨by
    obtain rfl | rfl | rfl : j = 0 ∨ j = 1 ∨ j = 2 := by omega
    · exact .inl rfl
    · exact .inr (.inl rfl)
    · exact .inr (.inr rfl), hf256 i j⟩))
  have RQ := hid (fun G gs R V (hr : Rows V G nn gs R) (hN : Near v (fb (8 * lv + mk)) (vtab.getD (v - 7) 0) (fun i x => x = f i 0 ∨ x = f i 1 ∨ x = f i 2) R) => readQ v (8 * lv + mk) lv mk nn nn (some ⟨G, 0, none⟩) R _ f V hv1 hv40 hnn (RowsUp.rd hr) hN (by omega) (by omega) (by omega) (fun i _ x hx => hx))
  have HA0 := hid (show Arr (w.alloc (.cells (wrL f).toArray 37)) w.heap.size 37 (wrL f) from by have := Arr.of_new w 37 (wrL f).toArray; rwa [List.toList_toArray] at this)
  have HB0 := hid (show Below w.heap.size w (w.alloc (.cells (wrL f).toArray 37)) from (Below.refl _ _).alloc (Nat.le_refl _) _)
  clear hv hlv hmk hf hwf hz hR ht hnn hwl
  by_cases hbig : (2147483647 : Int) < (n : Int)
  · clear FL MQ WQ RQ HA0
    unfold wrL at HB0 ⊢
    go_enter Try.func4, Try.ntmps4
    go_wp2_with fail
    go_ret
    exact ⟨rfl, HB0.out⟩
  · unfold WrongOut at WQ
    unfold ReadOk at RQ
    have HC := hid (fun V (h : Arr V w.heap.size 37 (wrL f)) k (hk : k < 12) => h.cell? k)
    unfold wrL at HA0 HB0 WQ HC ⊢
    go_enter Try.func4, Try.ntmps4
    go_wp2_with fail
    refine (v1 _).mono ?_
    rintro e w1 ⟨rfl, rfl⟩
    go_wp2_with fail
    refine (FL.out _ HB0.out).mono ?_
    rintro e w1 ⟨gb, l, rfl, hl, hA, hb⟩
    have HA1 := hid (HA0.out.below hb HA0.out.lt)
    have HB1 := hid (HB0.out.trans (hb.mono HB0.out.size))
    have mq := MQ.out gb l w1 hA hl
    clear hl hA hb HA0 HB0 FL MQ v1
    go_wp2_with fail
    refine (v2 _).mono ?_
    rintro e w2 ⟨rfl, rfl⟩
    go_wp2_with fail
    refine (v3 _).mono ?_
    rintro e w2 ⟨rfl, rfl⟩
    go_wp2_with fail
    refine mq.mono ?_
    rintro e w2 ⟨G, gs, R, rfl, hG, hRw, hN, hb2⟩
    have HA2 := hid (HA1.out.below hb2 HA1.out.lt)
    have HB2 := hid (HB1.out.trans (hb2.mono HB1.out.size))
    have wq := WQ.out G gs R w2 hRw (hN _)
    have q0 := HC.out w2 HA2.out 0 (by omega)
    have q1 := HC.out w2 HA2.out 1 (by omega)
    have q2 := HC.out w2 HA2.out 2 (by omega)
    have q3 := HC.out w2 HA2.out 3 (by omega)
    have q4 := HC.out w2 HA2.out 4 (by omega)
    have q5 := HC.out w2 HA2.out 5 (by omega)
    have q6 := HC.out w2 HA2.out 6 (by omega)
    have q7 := HC.out w2 HA2.out 7 (by omega)
    have q8 := HC.out w2 HA2.out 8 (by omega)
    have q9 := HC.out w2 HA2.out 9 (by omega)
    have q10 := HC.out w2 HA2.out 10 (by omega)
    have q11 := HC.out w2 HA2.out 11 (by omega)
    simp only [List.getElem?_cons_zero, List.getElem?_cons_succ] at q0 q1 q2 q3 q4 q5 q6 q7 q8 q9 q10 q11
    have HG := hid (Nat.le_trans HB1.out.size hG)
    clear hRw hN hb2 mq HA1 HB1 WQ HC HA2 hG
    go_wp2_with fail
    refine wq.mono ?_
    rintro e w3 ⟨R3, rfl, hR3, hN3, hb3⟩
    have rq := RQ.out G gs R3 w3 hR3 hN3
    have HB3 := hid (HB2.out.trans (hb3.mono HG.out))
    clear hR3 hN3 hb3 wq HB2 RQ q0 q1 q2 q3 q4 q5 q6 q7 q8 q9 q10 q11
    go_wp2_with fail
    refine rq.mono ?_
    rintro e w4 ⟨rfl, hb4⟩
    have HB4 := hid (HB3.out.trans (hb4.mono HB3.out.size))
    clear rq hb4 HB3
    go_wp2_with fail
    refine (v2 _).mono ?_
    rintro e w5 ⟨rfl, rfl⟩
    go_wp2_with fail
    refine (v3 _).mono ?_
    rintro e w5 ⟨rfl, rfl⟩
    go_wp2_with fail
    go_ret
    exact ⟨rfl, HB4.out⟩
end Go.Proofs.Ytpffffhgmhpkiaa
