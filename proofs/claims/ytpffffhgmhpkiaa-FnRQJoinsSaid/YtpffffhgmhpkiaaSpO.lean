/- QR codes: spec.QRStream: segments as bits. -/
import Derived.Test.YtpffffhgmhpkiaaSpN
import Derived.Test.YtpffffhgmhpkiaaSpF
import Derived.Deep.DrawnRows
import Derived.BigRegion
namespace Go.Proofs.Ytpffffhgmhpkiaa
open Go.RowKit
set_option linter.unusedVariables false
set_option linter.unusedSimpArgs false
attribute [local go_sem ↓] Go.wp_at_zero Go.wp_at_succ

theorem fitsQ (m : Nat) (s : List Nat) (h : SegOk (m, s)) (A : Option Addr) (n c : Nat) (w : World) (hR : Rd w A n (u8s s)) : Calls Try.prog 76 #[.agg #[.int .i64 m, .slice A n c]] w fun e w' => e = .returned (.bool true) ∧ Below w.heap.size w w' := by
  rcases h.mode with h1 | h1 | h1
  · dsimp only at h1; subst h1; exact fits1 s A n c w hR (h.dig rfl) h.len
  · dsimp only at h1; subst h1; exact fits2 s A n c w hR (h.alp rfl) h.len
  · dsimp only at h1; subst h1; exact fits4 s A n c w hR h.lt h.len
theorem dataQ (m : Nat) (s : List Nat) (h : SegOk (m, s)) (v : Value) (l : List Bool) (B : Nat) (A : Option Addr) (n c : Nat) (w : World) (hO : Own w B 4 v (bools l)) (hR : Rd w A n (u8s s)) (hc : n ≤ c) (hA : 0 < n → ∀ a, A = some a → v.ownBlock ≠ some a.block) (hB : B ≤ w.heap.size) (hll : l.length + 2000 ≤ 90000) :
    Calls Try.prog 77 #[v, .agg #[.int .i64 m, .slice A n c]] w (AddOut B (l ++ bitsD (dataD m s)) v w) := by
  rcases h.mode with h1 | h1 | h1
  · dsimp only at h1; subst h1; exact dataQ1 s v l B A n c w hO hR hc hA hB (h.dig rfl) h.len hll
  · dsimp only at h1; subst h1; exact dataQ2 s v l B A n c w hO hR hc hA hB (h.alp rfl) h.len hll
  · dsimp only at h1; subst h1; exact dataQ4 s v l B A n c w hO hR hc hA hB h.lt h.len hll
theorem numD_len : ∀ s : List Nat, lenD (numD s) ≤ 10 * s.length
  | [] => by simp [numD, lenD]
  | [a] => by simp [numD, lenD]
  | [a, b] => by simp [numD, lenD]
  | a :: b :: c :: t => by
    have := numD_len t
    rw [numD, lenD_cons]
    simp only [List.length_cons] at this ⊢
    omega
theorem alphD_len : ∀ s : List Nat, lenD (alphD s) ≤ 10 * s.length
  | [] => by simp [alphD, lenD]
  | [a] => by simp [alphD, lenD]
  | a :: b :: t => by
    have := alphD_len t
    rw [alphD, lenD_cons]
    simp only [List.length_cons] at this ⊢
    omega
theorem dataD_len (m : Nat) (s : List Nat) : lenD (dataD m s) ≤ 10 * s.length := by
  unfold dataD
  split
  · exact numD_len s
  · split
    · exact alphD_len s
    · rw [lenD_byte]; omega
theorem segD_len (v : Nat) (x : Nat × List Nat) (h : SegOk x) : lenD (segD v x) ≤ 2020 := by
  have h1 := dataD_len x.1 x.2
  have h2 := h.len
  have h3 := cnt_le x.1 v
  unfold segD
  rw [lenD_cons, lenD_cons]
  dsimp only
  omega
theorem strD_app (v : Nat) (a : List (Nat × List Nat)) (x : Nat × List Nat) : strD v (a ++ [x]) = strD v a ++ segD v x := by simp [strD]
theorem strD_len (v : Nat) : ∀ (T : List (Nat × List Nat)), (∀ x ∈ T, SegOk x) → lenD (strD v T) ≤ 2020 * T.length
  | [], _ => by simp [strD, lenD]
  | x :: T, h => by
    have h1 := strD_len v T (fun y hy => h y (by simp [hy]))
    have h2 := segD_len v x (h x (by simp))
    have e : strD v (x :: T) = segD v x ++ strD v T := by simp [strD]
    rw [e, lenD_app, List.length_cons]
    omega
theorem bitsD_app (a b : List (Nat × Nat)) : bitsD (a ++ b) = bitsD a ++ bitsD b := by simp [bitsD]
theorem cnt_ge (m v : Nat) : 8 ≤ cntB m v := by
  unfold cntB
  repeat' split
  all_goals omega
/-- Segments in memory. -/
def SegM (w : World) (A : Option Addr) (n : Nat) (S : List (Nat × List Nat)) : Prop :=
  S.length = n ∧ (0 < n → ∃ b o, A = some ⟨b, o, none⟩ ∧ b < w.heap.size ∧ ∀ k, k < n → ∃ R c, (S.getD k (0, [])).2.length ≤ c ∧ w.cell? ⟨b, o + k * 2, none⟩ = some (.int .i64 ((S.getD k (0, [])).1 : Nat)) ∧
    w.cell? ⟨b, o + k * 2 + 1, none⟩ = some (.slice R (S.getD k (0, [])).2.length c) ∧ Rd w R (S.getD k (0, [])).2.length (u8s (S.getD k (0, [])).2))
theorem SegM.below {w w' : World} {A : Option Addr} {n : Nat} {S : List (Nat × List Nat)} (h : SegM w A n S) (hb : Below w.heap.size w w') : SegM w' A n S :=
  ⟨h.1, fun hn => by
    obtain ⟨b, o, e, hl, hc⟩ := h.2 hn
    refine ⟨b, o, e, Nat.lt_of_lt_of_le hl hb.size, fun k hk => ?_⟩
    obtain ⟨R, c, a0, a1, a2, a3⟩ := hc k hk
    exact ⟨R, c, a0, (hb.cell (p := ⟨b, o + k * 2, none⟩) hl).trans a1, (hb.cell (p := ⟨b, o + k * 2 + 1, none⟩) hl).trans a2, a3.below hb⟩⟩
def StreamOut (v : Nat) (S : List (Nat × List Nat)) (w : World) (e : Ending) (w' : World) : Prop :=
  ∃ v', e = .returned (.tuple #[v', .bool true]) ∧ Own w' w.heap.size 4 v' (bools (bitsD (strD v S))) ∧ Below w.heap.size w w'
set_option maxRecDepth 20000 in
set_option maxHeartbeats 16000000 in
theorem streamQ (v : Nat) (S : List (Nat × List Nat)) (A : Option Addr) (n c : Nat) (w : World) (hv : v ≤ 40) (hS : ∀ x ∈ S, SegOk x) (hSl : S.length ≤ 4) (hM : SegM w A n S) :
    Calls Try.prog 47 #[.slice A n c, .int .i64 v] w (StreamOut v S w) := by
  have HM := hid hM
  have HN := hid hM.1
  have HS := hid hS
  have hn4 : n ≤ 4 := by rw [← hM.1]; exact hSl
  obtain ⟨B, hB⟩ : ∃ B, B = w.heap.size := ⟨_, rfl⟩
  have HBe := hid hB
  clear hM hS hB
  go_enter Try.func47, Try.ntmps47
  go_wp2_with fail
  go_loopw [6, 13] (fun ov iv wr => ∃ i : Nat, i ≤ n ∧ iv = .int .i64 (i : Nat) ∧ Hid (Own wr B 4 ov (bools (bitsD (strD v (S.take i))))) ∧ Hid (Below B w wr)) (fun _ iv _ => n - (intOf iv).toNat)
  case atStart => exact ⟨0, by omega, rfl, hid (by simpa [strD, bitsD, bools] using Own.nil w B 4), hid (Below.refl _ _)⟩
  case round =>
    obtain ⟨i, hi, rfl, HO, HB⟩ := hrel
    have hbr : B ≤ wr.heap.size := by have := HB.out.size; have := HBe.out; omega
    by_cases hlt : i < n
    · have hlt' : (i : Int) < (n : Int) := by omega
      have HMr := hid (HM.out.below (HBe.out ▸ HB.out))
      obtain ⟨b, o, hAe, hbl, hcc⟩ := HMr.out.2 (by omega)
      obtain ⟨R, cR, a0, a1, a2, a3⟩ := hcc i hlt
      have hiS : i < S.length := by rw [HN.out]; exact hlt
      have hmem : S.getD i (0, []) ∈ S := by rw [List.getD, List.getElem?_eq_getElem hiS]; exact List.getElem_mem hiS
      have HSO := hid (HS.out _ hmem)
      have hRb : 0 < (S.getD i (0, [])).2.length → ∀ a, R = some a → a.block < B := by
        obtain ⟨b', o', e', hl', hc'⟩ := HM.out.2 (by omega)
        obtain ⟨R', c', _, _, d2, d3⟩ := hc' i hlt
        have e2 : w.cell? ⟨b, o + i * 2 + 1, none⟩ = wr.cell? ⟨b, o + i * 2 + 1, none⟩ := by
          rw [e'] at hAe; injection hAe with hAe; injection hAe with h1 h2
          exact (HB.out.cell (p := ⟨b, o + i * 2 + 1, none⟩) (by show b < B; have := HBe.out; omega)).symm
        rw [e'] at hAe; injection hAe with hAe; injection hAe with h1 h2
        subst h1 h2
        rw [d2, a2] at e2
        injection e2 with e2; injection e2 with e3 e4 e5
        intro h0 a ha
        obtain ⟨bb, oo, f1, f2, _⟩ := d3.2 h0
        rw [← e3, f1] at ha; injection ha with ha; subst ha
        show bb < B; have := HBe.out; omega
      have HTK := hid (show S.take (i + 1) = S.take i ++ [S.getD i (0, [])] from by rw [List.take_succ_eq_append_getElem hiS, List.getD, List.getElem?_eq_getElem hiS]; rfl)
      have HLB := hid (show (bitsD (strD v (S.take i))).length ≤ 8080 from by
        rw [bitsD_len]
        have := strD_len v (S.take i) (fun x hx => HS.out x (List.mem_of_mem_take hx))
        rw [List.length_take] at this
        omega)
      subst hAe
      obtain ⟨x, hx⟩ : ∃ x, x = S.getD i (0, []) := ⟨_, rfl⟩
      rw [← hx] at a0 a1 a2 a3 HSO hRb HTK
      obtain ⟨m, s⟩ := x
      dsimp only at a0 a1 a2 a3 hRb
      obtain ⟨L, hL⟩ : ∃ L, L = bitsD (strD v (S.take i)) := ⟨_, rfl⟩
      rw [← hL] at HO HLB
      obtain ⟨k, hk⟩ : ∃ k, k = s.length := ⟨_, rfl⟩
      rw [← hk] at a0 a2 a3 hRb
      have hk200 : k ≤ 200 := by rw [hk]; exact HSO.out.len
      have hm4 : m ≤ 4 := by have := HSO.out.mode; unfold IsMode at this; dsimp only at this; omega
      have HR3 := hid a3
      have HLe := hid hL
      have HKe := hid hk
      have CQ := hid (fun W => cntBitsQ m v HSO.out.mode hv W)
      obtain ⟨cv, hcv⟩ : ∃ cv, cv = cntB m v := ⟨_, rfl⟩
      have hcl := cnt_le m v
      rw [← hcv] at hcl CQ
      have HCV := hid hcv
      clear hx hmem hcc hL hk a3 hcv
      have HO1 := hid (HO.out.alloc (.cells #[.int .i64 (m : Nat), .slice R k cR] 97))
      have HA1 := hid (Arr.of_new wr 97 #[.int .i64 (m : Nat), .slice R k cR])
      have HR1 := hid (HR3.out.alloc (.cells #[.int .i64 (m : Nat), .slice R k cR] 97))
      have HB1 := hid (HB.out.alloc hbr (.cells #[.int .i64 (m : Nat), .slice R k cR] 97))
      obtain ⟨bx, hbx⟩ : ∃ bx, bx = wr.heap.size := ⟨_, rfl⟩
      have HBO := hid (show u6.ownBlock ≠ some bx from fun e => by have := (HO.out.lt bx e).2; omega)
      have hs1 : bx < (wr.alloc (.cells #[.int .i64 (m : Nat), .slice R k cR] 97)).heap.size := by simp; omega
      have hbB : B ≤ bx := by omega
      go_wp2_with fail
      rw [← hbx] at HA1 ⊢
      clear hbx a1 a2
      generalize wr.alloc (.cells #[.int .i64 (m : Nat), .slice R k cR] 97) = w1 at *
      clear HO HR3 HB HMr hbl hbr
      refine (CQ.out _).mono ?_
      rintro e w2 ⟨rfl, hb2⟩
      have HO2 := hid (HO1.out.below hb2 (fun g hg => (HO1.out.lt g hg).2))
      have HA2 := hid (HA1.out.below hb2 hs1)
      have HR2 := hid (HR1.out.below hb2)
      have HB2 := hid (HB1.out.trans (hb2.mono (by omega)))
      have hs2 := Nat.lt_of_lt_of_le hs1 hb2.size
      clear HO1 HA1 HR1 HB1 hb2 CQ hs1
      have q0 := HA2.out.cell? 0
      have q1 := HA2.out.cell? 1
      simp only [List.getElem?_cons_zero, List.getElem?_cons_succ] at q0 q1
      obtain ⟨p, hp⟩ : ∃ p, p = 2 ^ cv := ⟨_, rfl⟩
      have hc8 : 8 ≤ cv := by rw [HCV.out]; exact cnt_ge m v
      have hp1 : 256 ≤ p := by rw [hp]; exact Nat.le_trans (by decide) (Nat.pow_le_pow_right (n := 2) (by decide) hc8)
      have hp2 : p ≤ 65536 := by rw [hp]; exact Nat.pow_le_pow_right (n := 2) (by decide) hcl.2
      have hpi : (2 : Int) ^ cv = (p : Int) := by rw [hp]; simp
      have hpw : IntKind.i64.wrap (p : Int) = (p : Int) := IntWalk.i64_in _ ⟨by omega, by omega⟩
      have hkp : ¬ (p : Int) ≤ (k : Int) := by omega
      have fq := fitsQ m s HSO.out R k cR w2.drew HR2.out.drew
      clear hp
      go_wp2_with fail
      go_region_with ((go_at_call 76; ((with_reducible refine fq.mono ?_); rintro e w5 ⟨rfl, hb5⟩; have d0 := (hb5.cell (p := ⟨bx, 0, none⟩) hs2).trans q0; have d1 := (hb5.cell (p := ⟨bx, 1, none⟩) hs2).trans q1)))
      have HO5 := hid (HO2.out.below (show Below w2.heap.size w2 w5 from ⟨hb5.os, hb5.tape, hb5.output, hb5.size, hb5.block⟩) (fun g hg => (HO2.out.lt g hg).2))
      have HR5 := hid (HR2.out.below (show Below w2.heap.size w2 w5 from ⟨hb5.os, hb5.tape, hb5.output, hb5.size, hb5.block⟩))
      have hs5 : bx < w5.heap.size := Nat.lt_of_lt_of_le hs2 hb5.size
      have HB5 := hid (HB2.out.trans (show Below B w2 w5 from ⟨hb5.os, hb5.tape, hb5.output, hb5.size, fun g hg => hb5.block g (by show g < w2.heap.size; omega)⟩))
      have hB5 : B ≤ w5.heap.size := by omega
      have ow : ∀ (V : World) (x : Value) (y : List Value), Own V B 4 x y → 0 < k → ∀ a, R = some a → x.ownBlock ≠ some a.block := fun V x y h h0 a ha e => by have := (h.lt a.block e).1; have := hRb h0 a ha; omega
      have HOW := hid ow
      clear q0 q1 HO2 HA2 HR2 HB2 hb5 fq hkp hpw hpi ow
      have tst1 : Calls Try.prog 49 #[u6, .int .i64 (m : Nat), .int .i64 4] w5.drew (AddOut B (L ++ numB m 4) u6 w5.drew) := addQ m 4 B u6 L w5.drew HO5.out.drew (by omega) (by omega) (by have := HLB.out; omega) hB5
      have TQ := hid (fun V x (hO : Own V B 4 x (bools (L ++ numB m 4))) (hB : B ≤ V.heap.size) => addQ k cv B x _ V hO (by omega) (by omega) (by have := HLB.out; rw [List.length_append, numB_len]; omega) hB)
      go_wp2_with fail
      go_region_with ((first
        | (go_at_call 49; ((with_reducible refine tst1.mono ?_); rintro e w6 ⟨v6, rfl, hO6, hF6⟩; have d0' := (hF6.cell (g := bx) (k := 0) hs5 HBO.out).trans d0; have d1' := (hF6.cell (g := bx) (k := 1) hs5 HBO.out).trans d1; have hB6 := Nat.le_trans hB5 hF6.size))
        | (go_at_call 49; ((with_reducible refine (TQ.out _ _ hO6 hB6).mono ?_); rintro e w7 ⟨v7, rfl, hO7, hF7⟩))))
      all_goals (
        have HF6 := hid (show Fo u6 w5 v6 w6 from ⟨hF6.os, hF6.tape, hF6.output, hF6.size, hF6.block⟩)
        have HF7 := hid (HF6.out.trans (show Fo v6 w6 v7 w7 from ⟨hF7.os, hF7.tape, hF7.output, hF7.size, hF7.block⟩))
        have e0 := (HF7.out.cell (g := bx) (k := 0) hs5 HBO.out).trans d0
        have e1 := (HF7.out.cell (g := bx) (k := 1) hs5 HBO.out).trans d1
        have HR7 := hid (HR5.out.fo HF7.out (HOW.out _ _ _ HO5.out))
        have HO7 := hid hO7
        have hB7 := Nat.le_trans hB5 HF7.out.size
        have dq := dataQ m s HSO.out v7 (L ++ numB m 4 ++ numB k cv) B R k cR w7 HO7.out HR7.out a0 (HOW.out _ _ _ HO7.out) hB7 (by have := HLB.out; rw [List.length_append, List.length_append, numB_len, numB_len]; omega)
        clear hF6 hF7 d0 d1 hO6 hO7 tst1 TQ
        go_wp2_with fail
        refine dq.mono ?_
        rintro e w8 ⟨v8, rfl, hO8, hF8⟩
        have HO8 := hid (show Own w8 B 4 v8 (bools (bitsD (strD v (S.take (i + 1))))) from by
          rw [HTK.out, strD_app, bitsD_app, ← HLe.out]
          have e : bitsD (segD v (m, s)) = numB m 4 ++ (numB k cv ++ bitsD (dataD m s)) := by
            unfold segD
            rw [bitsD_cons, bitsD_cons, HKe.out, HCV.out]
          rw [e, ← List.append_assoc, ← List.append_assoc]
          exact hO8)
        have HB8 := hid (HB5.out.trans ((HF7.out.trans hF8).toBelow hB5 (fun g hg => (HO5.out.lt g hg).1)))
        clear dq hO8 hF8 e0 e1
        go_wp2_with fail
        go_roundw
        case rel => first | exact ⟨i + 1, by omega, by go_num, HO8, HB8⟩ | ((repeat apply Exists.intro); exact ⟨⟨i + 1, by omega, rfl, HO8, HB8⟩, rfl⟩)
        case measure => first | (simp [intOf]; done) | (simp [intOf]; omega))
    · obtain rfl : i = n := by omega
      have hlt' : ¬ (i : Int) < (i : Int) := by omega
      have HO2 := hid (show Own wr B 4 u6 (bools (bitsD (strD v S))) from by have := HO.out; rwa [show S.take i = S from List.take_of_length_le (by rw [HN.out]; exact Nat.le_refl _)] at this)
      have HB2 := hid (show Below w.heap.size w wr from by have := HB.out; rwa [HBe.out] at this)
      clear HO HB
      go_wp2_with fail
      go_ret2
      exact ⟨u6, rfl, by rw [← HBe.out]; exact HO2.out, HB2.out⟩
end Go.Proofs.Ytpffffhgmhpkiaa
