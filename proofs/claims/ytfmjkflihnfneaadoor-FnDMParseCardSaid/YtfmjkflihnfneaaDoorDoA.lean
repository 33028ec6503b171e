/- decoder.DecodedBitStreamParser_decode. -/
import Derived.Test.YtfmjkflihnfneaaDoorDnZ
namespace Go.Proofs.YtfmjkflihnfneaaDoor
open Go.RowKit
set_option linter.unusedVariables false
set_option linter.unusedSimpArgs false

theorem own_str {w : World} {B : Nat} {v : Value} {o : List Nat} (h : Own w B 5 v (u8s o)) : ∃ A c, v = .slice A o.length c ∧ (convert 28 9 (.slice A o.length c)).run Tryd.prog w = .ok (.string (strOf o)) w := by
  by_cases hn : v.ownBlock = none
  · rcases h.2 with ⟨rfl, hx⟩ | ⟨g, cap, cur, rfl, _⟩
    · rw [u8s_len] at hx
      obtain rfl : o = [] := List.eq_nil_of_length_eq_zero hx
      exact ⟨none, 0, rfl, by kernel_rfl⟩
    · cases hn
  · obtain ⟨g, c, h1, h2⟩ := own_text h hn
    exact ⟨_, c, h1, h2⟩
theorem own_str' {w : World} {B : Nat} {A : Option Addr} {n c : Nat} {o : List Nat} (h : Own w B 5 (.slice A n c) (u8s o)) : (convert 28 9 (.slice A n c)).run Tryd.prog w = .ok (.string (strOf o)) w := by
  obtain ⟨A', c', e, hr⟩ := own_str h
  rw [e]; exact hr
theorem keepS {w w' : World} {mb : Nat} (hb : Below w.heap.size w w') (h : SetE w mb) : SetE w' mb := (hb.block mb (by
  rcases Nat.lt_or_ge mb w.heap.size with hl | hl
  · exact hl
  · unfold SetE at h; rw [Array.getElem?_eq_none hl] at h; cases h)).trans h
/-- What the reader gives: a result with the text X. -/
def ParseOut (A : Option Addr) (n c : Nat) (X : List Nat) (w : World) (e : Ending) (w' : World) : Prop :=
  ∃ (d : Nat) (Ab : Option Addr) (nb cb : Nat) (xs : List Value) (sm : Int), e = .returned (.tuple #[.pointer (some ⟨d, 0, none⟩), .nilIface]) ∧ IsRes w' d (.slice A n c) n (strOf X) (.slice Ab nb cb) sm ∧ Rd w' Ab nb xs ∧ SegRd w' xs ∧ nb ≤ 4000 ∧ Below w.heap.size w w'
set_option maxRecDepth 20000 in
set_option maxHeartbeats 8000000 in
theorem decodeM (W X : List Nat) (A : Option Addr) (c : Nat) (w : World) (hR : Rd w A W.length (u8s W)) (hlt : ∀ j, W.getD j 0 < 256) (hn : W.length ≤ 4000) (hA : ∀ a, A = some a → a.block < w.heap.size) (hT : Says W X 1 0 []) (hX : X.length ≤ 90000) :
    Calls Tryd.prog 18 #[.slice A W.length c] w (ParseOut A W.length c X w) := by
  obtain ⟨i5, gi, gz0, gz1, gz2⟩ := info_of info5
  obtain ⟨i28, si, sz0, sz1, sz2⟩ := info_of info28'
  obtain ⟨N, hN⟩ : ∃ N, N = W.length := ⟨_, rfl⟩
  have HNS := hid (fun V => newSrc A N c V)
  obtain ⟨q, hq⟩ : ∃ q, q = w.heap.size := ⟨_, rfl⟩
  obtain ⟨B, hB⟩ : ∃ B, B = w.heap.size + 1 := ⟨_, rfl⟩
  have hmm := fun V => run_makeMap (P := Tryd.prog) 65 V
  rw [← hN]
  have HN := hid hN
  have hNl : N ≤ 4000 := by omega
  clear hN
  go_enter Tryd.func18, Tryd.ntmps18
  go_wp2_with (first
     | (go_at_call 32; ((with_reducible refine (HNS.out _).mono ?_); rintro e w1 ⟨rfl, h1, h2, h3⟩))
     | (at_make; refine wpList_make_own _ rfl _ _ 28 rfl B 5 i5 _ 1 Tryd.underlying28 gi gz0 gz1 .i64 .i64 100 100 rfl rfl rfl (by rw [gz2]; omega) (by simp [maxLen]) (by omega) ?_; intro w2 hO2 hg2)
     | (at_make; refine wpList_make_own _ rfl _ _ 28 rfl B 5 i5 _ 1 Tryd.underlying28 gi gz0 gz1 .i64 .i64 0 0 rfl rfl rfl (by rw [gz2]; omega) (by simp [maxLen]) (by have := hg2.size; omega) ?_; intro w3 hO3 hg3)
     | (at_make; refine wpList_make_own _ rfl _ _ 35 rfl B 28 i28 _ 1 Tryd.underlying35 si sz0 sz1 .i64 .i64 1 1 rfl rfl rfl (by rw [sz2]; omega) (by simp [maxLen]) (by have := hg2.size; have := hg3.size; omega) ?_; intro w4 hO4 hg4))
  have HQ := hid hq
  have HBQ := hid (show B = q + 1 from by omega)
  have hqB : q < B := by omega
  have hw1 : w1.heap.size = B := by omega
  have hsz2 := hg2.size
  have hsz3 := hg3.size
  have hsz4 := hg4.size
  obtain ⟨mb, hmb⟩ : ∃ mb, mb = w4.heap.size := ⟨_, rfl⟩
  have hv2 := (World.ownsRow.lt hO2 w1.heap.size rfl)
  have hv3 := (World.ownsRow.lt hO3 w2.heap.size rfl)
  have hv4 := (World.ownsRow.lt hO4 w3.heap.size rfl)
  rw [← hq] at h1 h2
  have HC := hid (show Rdr W A c q B (w4.alloc (.map #[] 0)) from by
    have hk : Kp B q w (w4.alloc (.map #[] 0)) := (((((⟨h2.os, h2.tape, h2.output, h2.size, fun g g1 g2 => h2.block g (by omega)⟩ : Kp B q w w1)).own (by omega) hg2 (fun j hj => by cases hj)).own (by omega) hg3 (fun j hj => by cases hj)).own (by omega) hg4 (fun j hj => by cases hj)).alloc (by omega) _
    exact ⟨hk.rd hR (fun a ha => by have := hA a ha; omega), hlt, hn, fun a ha => by have := hA a ha; omega, hqB, by simp; omega⟩)
  have HDS := hid (show DS W X A c q B mb w 1 0 [] [] (.slice (some ⟨w1.heap.size, 0, none⟩) 0 100) (.slice (some ⟨w3.heap.size, 0, none⟩) 0 1) (w4.alloc (.map #[] 0)) from by
    refine ⟨.inr ⟨by omega, by omega, hT⟩, ?_, ?_, ?_, ?_, ?_, by simp, by simp, fun x hx => (by cases hx), ?_, ?_⟩
    · have h9 := HN.out ▸ h1
      exact (((h9.own hg2 (by intro e; cases e)).own hg3 (by intro e; cases e)).own hg4 (by intro e; cases e)).alloc _
    · exact ((World.ownsRow.kept (World.ownsRow.kept hO2 hg3 (.inr (by intro e; cases e))) hg4 (.inr (by intro e; cases e))).alloc _ : Own _ _ _ _ _)
    · exact (World.ownsRow.alloc hO4 _ : Own _ _ _ _ _)
    · exact .inr (fun e => by simp [Value.ownBlock] at e; omega)
    · exact (((((⟨h2.os, h2.tape, h2.output, h2.size, fun g g1 g2 => h2.block g (by omega)⟩ : Kp B q w w1)).own (by omega) hg2 (fun j hj => by cases hj)).own (by omega) hg3 (fun j hj => by cases hj)).own (by omega) hg4 (fun j hj => by cases hj)).alloc (by omega) _
    · rw [hmb]; exact (MapKept.heap_alloc w4 _).1
    · exact ⟨by rw [hmb]; simp, by omega, fun e => by simp [Value.ownBlock] at e; omega, fun e => by simp [Value.ownBlock] at e; omega⟩)
  have HMB := hid hmb
  have HW1 := hid (show w1.heap.size = w.heap.size + 1 from h3)
  go_wp2_with fail
  have HC2 := hid (fun V (h : Kp B q w V) (hb : B ≤ V.heap.size) => show Rdr W A c q B V from ⟨h.rd hR (fun a ha => by have := hA a ha; have := HQ.out; have := HBQ.out; omega), hlt, hn, fun a ha => by have := hA a ha; have := HQ.out; have := HBQ.out; omega, hqB, hb⟩)
  obtain ⟨TR, hTR⟩ : ∃ TR, TR = Value.slice (some ⟨w2.heap.size, 0, none⟩) 0 0 := ⟨_, rfl⟩
  have HTR := hid hTR
  rw [← hTR, ← hmb, ← hq]
  have e1 : w1.heap.size = q + 1 := by omega
  rw [e1] at HDS
  clear e1
  clear hTR hmb h1 h2 h3 hO2 hg2 hO3 hg3 hO4 hg4 hsz2 hsz3 hsz4 hv2 hv3 hv4 hw1 hq hB hmm HNS
  go_loopg [5, 6, 7, 8, 11] (N + 1) (fun gk v tv b kv ec wr => ∃ (k p : Nat) (o : List Nat) (xs : List Value), gk = (if k = 0 then 0 else N + 1 - p) ∧ kv = .int .i64 (k : Nat) ∧ ec = .bool false ∧ TR = tv ∧ Hid (DS W X A c q B mb w k p o xs v b wr) ∧ B ≤ wr.heap.size)
  case atStart => exact ⟨1, 0, [], [], by simp, rfl, rfl, rfl, HDS, HC.out.bs⟩
  case round =>
    clear HDS
    obtain ⟨k, p, o, xs, rfl, rfl, rfl, rfl, HDS, hbr⟩ := hrel
    have HCr := hid (HC2.out _ HDS.out.kp hbr)
    rcases HDS.out.says with ⟨rfl, hoX⟩ | ⟨hk1, hk6, hSY⟩
    · have hoX' := hoX
      obtain ⟨A5, c5, hv5, _⟩ := own_str HDS.out.own
      obtain ⟨A7, c7, hv7, hR7, _⟩ := HDS.out.ownb.form
      subst hv5 hv7
      have hs0 := HDS.out.set
      have HO5 := hid (show Own wr B 5 (.slice A5 o.length c5) (u8s X) from hoX ▸ HDS.out.own)
      have HR7 := hid hR7
      have HXN := hid HDS.out.xn
      have HSEG := hid HDS.out.seg
      obtain ⟨ol, hol⟩ : ∃ ol, ol = o.length := ⟨_, rfl⟩
      rw [← hol] at HO5 ⊢
      obtain ⟨xl, hxl⟩ : ∃ xl, xl = xs.length := ⟨_, rfl⟩
      rw [← hxl] at HR7 ⊢
      have HXL := hid hxl
      obtain rfl := HTR.out
      clear hol hoX hoX' hR7
      by_cases hx0 : xl = 0
      case pos =>
        have hxe : ((xl : Int) == 0) = true := by simp; omega
        have HX0 := hid hx0
        clear hx0 hxl
        go_wp2_with (first
        | (go_at_call 41; ((with_reducible refine (containsM mb 0 (by omega) (by omega) wr hs0).mono ?_); rintro e wa ⟨rfl, hba⟩; have hsa := keepS hba hs0))
        | (go_at_call 41; ((with_reducible refine (containsM mb 4 (by omega) (by omega) wa hsa).mono ?_); rintro e wb ⟨rfl, hbb⟩; have hsb := keepS hbb hsa))
        | (go_at_call 41; ((with_reducible refine (containsM mb 1 (by omega) (by omega) wb hsb).mono ?_); rintro e wd ⟨rfl, hbd⟩; have hsd := keepS hbd hsb))
        | (go_at_call 41; ((with_reducible refine (containsM mb 5 (by omega) (by omega) wd hsd).mono ?_); rintro e we ⟨rfl, hbe⟩; have HBE := hid (((hba.trans (hbb.mono hba.size)).trans (hbd.mono (Nat.le_trans hba.size hbb.size))).trans (hbe.mono (Nat.le_trans (Nat.le_trans hba.size hbb.size) hbd.size))); have hcv := own_str' (HO5.out.below HBE.out (fun k hk => (HO5.out.lt k hk).2))))
        | (go_at_call 42; ((with_reducible refine (newResM A N c (strOf X) none 0 0 1 hNl _).mono ?_); rintro e wf ⟨rfl, hres, hbf⟩)))
        go_ret2
        have hbz := HBE.out.trans (hbf.mono HBE.out.size)
        refine ⟨_, none, 0, 0, [], 1, rfl, hres, ?_, ?_, ?_, ?_⟩
        · exact Rd.nil
        · exact fun x hx => (by cases hx)
        · omega
        · exact (HDS.out.kp.toBelow (by have := HQ.out; have := HBQ.out; omega) (by have := HQ.out; omega)).trans (hbz.mono (by have := HDS.out.kp.size; omega))
      case neg =>
        have hxe : ((xl : Int) == 0) = false := by simp; omega
        have HX0 := hid hx0
        clear hx0 hxl
        go_wp2_with (first
        | (go_at_call 41; ((with_reducible refine (containsM mb 0 (by omega) (by omega) wr hs0).mono ?_); rintro e wa ⟨rfl, hba⟩; have hsa := keepS hba hs0))
        | (go_at_call 41; ((with_reducible refine (containsM mb 4 (by omega) (by omega) wa hsa).mono ?_); rintro e wb ⟨rfl, hbb⟩; have hsb := keepS hbb hsa))
        | (go_at_call 41; ((with_reducible refine (containsM mb 1 (by omega) (by omega) wb hsb).mono ?_); rintro e wd ⟨rfl, hbd⟩; have hsd := keepS hbd hsb))
        | (go_at_call 41; ((with_reducible refine (containsM mb 5 (by omega) (by omega) wd hsd).mono ?_); rintro e we ⟨rfl, hbe⟩; have HBE := hid (((hba.trans (hbb.mono hba.size)).trans (hbd.mono (Nat.le_trans hba.size hbb.size))).trans (hbe.mono (Nat.le_trans (Nat.le_trans hba.size hbb.size) hbd.size))); have hcv := own_str' (HO5.out.below HBE.out (fun k hk => (HO5.out.lt k hk).2))))
        | (go_at_call 42; ((with_reducible refine (newResM A N c (strOf X) A7 xl c7 1 hNl _).mono ?_); rintro e wf ⟨rfl, hres, hbf⟩)))
        go_ret2
        have hbz := HBE.out.trans (hbf.mono HBE.out.size)
        refine ⟨_, A7, xl, c7, xs, 1, rfl, hres, ?_, ?_, ?_, ?_⟩
        · exact HR7.out.below hbz
        · exact fun x hx => (by obtain ⟨g, n, l, e1, e2, e3, e4, e5⟩ := HSEG.out x hx; exact ⟨g, n, l, e1, e2, e3.below hbz e3.lt, e4⟩)
        · rw [HXL.out]; exact Nat.le_trans HXN.out hn
        · exact (HDS.out.kp.toBelow (by have := HQ.out; have := HBQ.out; omega) (by have := HQ.out; omega)).trans (hbz.mono (by have := HDS.out.kp.size; omega))
    have HSY := hid hSY
    clear hSY
    rcases (by omega : k = 1 ∨ k = 2 ∨ k = 3 ∨ k = 4 ∨ k = 5 ∨ k = 6) with rfl | rfl | rfl | rfl | rfl | rfl
    · -- mode 1
      have hpW := says_lt HSY.out
      have hNW := HN.out
      have HAV := hid (available q A N c (8 * p) wr (HN.out ▸ HDS.out.src) (by omega) (by omega))
      obtain ⟨D, hD⟩ : ∃ D, D = 8 * N - 8 * p := ⟨_, rfl⟩
      have hD8 : (0 : Int) < (D : Int) := by have := HN.out; omega
      rw [← hD] at HAV
      clear hD hNW
      have HSG := hid (fun V (h : DS W X A c q B mb w 1 p o xs u5 u7 V) (hC : Rdr W A c q B V) => segA W X A c q B p u5 TR (.map (some mb)) o V hC h.src h.own HSY.out hX)
      go_wp2_with (first | (go_at_call 33; ((with_reducible refine HAV.out.mono ?_); rintro e w1 ⟨rfl, k1, rfl⟩)) | (go_at_call 34; ((with_reducible refine (HSG.out _ (HDS.out.drewN _) (HCr.out.kp ((Kp.refl _ _ _).drewN _))).mono ?_); rintro e w9 ⟨k', p', o', v', rfl, hp9, hs9, hsr9, ho9, hk9, hf9⟩; have HD9 := hid ((HDS.out.drewN k1).fr hqB (by rcases hs9 with h | h; exact .inl h; exact .inr h) (by omega) hsr9 ho9 hk9 hf9))))
      go_roundg (if k' = 0 then 0 else N + 1 - p')
      case measure => have := HN.out; simp; split <;> omega
      case rel => exact ⟨k', p', _, xs, rfl, rfl, rfl, rfl, HD9, Nat.le_trans hbr hk9.size⟩
    · -- mode 2
      obtain ⟨q2, l, hT2, hS2⟩ := Says.invT (m := 1) (by omega) (by omega) HSY.out
      have hol := Nat.le_trans (says_len hS2) hX
      have hpW := says_lt HSY.out
      have hNW := HN.out
      have HAV := hid (available q A N c (8 * p) wr (HN.out ▸ HDS.out.src) (by omega) (by omega))
      obtain ⟨D, hD⟩ : ∃ D, D = 8 * N - 8 * p := ⟨_, rfl⟩
      have hD8 : (0 : Int) < (D : Int) := by have := HN.out; omega
      rw [← hD] at HAV
      clear hD hNW
      have HSG := hid (fun V (h : DS W X A c q B mb w 2 p o xs u5 u7 V) (hC : Rdr W A c q B V) => segC W A c q B p q2 u5 o l (.map (some mb)) V hC h.src h.own hT2 (by omega))
      have hpq := tseg_pos hT2
      have HS2 := hid hS2
      clear hT2 hS2
      go_wp2_with (first | (go_at_call 33; ((with_reducible refine HAV.out.mono ?_); rintro e w1 ⟨rfl, k1, rfl⟩)) | (go_at_call 35; ((with_reducible refine (HSG.out _ (HDS.out.drewN _) (HCr.out.kp ((Kp.refl _ _ _).drewN _))).mono ?_); rintro e w9 ⟨v', rfl, hs9, ho9, hk9, hf9⟩; have HD9 := hid ((HDS.out.drewN k1).fr hqB (.inr ⟨by omega, by omega, HS2.out⟩) (by omega) hs9 ho9 hk9 hf9))))
      go_roundg (N + 1 - q2)
      case measure => have := HN.out; simp; omega
      case rel => exact ⟨1, q2, _, xs, by simp, rfl, rfl, rfl, HD9, Nat.le_trans hbr hk9.size⟩
    · -- mode 3
      obtain ⟨q2, l, hT2, hS2⟩ := Says.invT (m := 2) (by omega) (by omega) HSY.out
      have hol := Nat.le_trans (says_len hS2) hX
      have hpW := says_lt HSY.out
      have hNW := HN.out
      have HAV := hid (available q A N c (8 * p) wr (HN.out ▸ HDS.out.src) (by omega) (by omega))
      obtain ⟨D, hD⟩ : ∃ D, D = 8 * N - 8 * p := ⟨_, rfl⟩
      have hD8 : (0 : Int) < (D : Int) := by have := HN.out; omega
      rw [← hD] at HAV
      clear hD hNW
      have HSG := hid (fun V (h : DS W X A c q B mb w 3 p o xs u5 u7 V) (hC : Rdr W A c q B V) => segT W A c q B p q2 u5 o l (.map (some mb)) V hC h.src h.own hT2 (by omega))
      have hpq := tseg_pos hT2
      have HS2 := hid hS2
      clear hT2 hS2
      go_wp2_with (first | (go_at_call 33; ((with_reducible refine HAV.out.mono ?_); rintro e w1 ⟨rfl, k1, rfl⟩)) | (go_at_call 36; ((with_reducible refine (HSG.out _ (HDS.out.drewN _) (HCr.out.kp ((Kp.refl _ _ _).drewN _))).mono ?_); rintro e w9 ⟨v', rfl, hs9, ho9, hk9, hf9⟩; have HD9 := hid ((HDS.out.drewN k1).fr hqB (.inr ⟨by omega, by omega, HS2.out⟩) (by omega) hs9 ho9 hk9 hf9))))
      go_roundg (N + 1 - q2)
      case measure => have := HN.out; simp; omega
      case rel => exact ⟨1, q2, _, xs, by simp, rfl, rfl, rfl, HD9, Nat.le_trans hbr hk9.size⟩
    · -- mode 4
      obtain ⟨q2, l, hT2, hS2⟩ := Says.invT (m := 3) (by omega) (by omega) HSY.out
      have hol := Nat.le_trans (says_len hS2) hX
      have hpW := says_lt HSY.out
      have hNW := HN.out
      have HAV := hid (available q A N c (8 * p) wr (HN.out ▸ HDS.out.src) (by omega) (by omega))
      obtain ⟨D, hD⟩ : ∃ D, D = 8 * N - 8 * p := ⟨_, rfl⟩
      have hD8 : (0 : Int) < (D : Int) := by have := HN.out; omega
      rw [← hD] at HAV
      clear hD hNW
      have HSG := hid (fun V (h : DS W X A c q B mb w 4 p o xs u5 u7 V) (hC : Rdr W A c q B V) => segX W A c q B p q2 u5 o l V hC h.src h.own hT2 (by omega))
      have hpq := tseg_pos hT2
      have HS2 := hid hS2
      clear hT2 hS2
      go_wp2_with (first | (go_at_call 33; ((with_reducible refine HAV.out.mono ?_); rintro e w1 ⟨rfl, k1, rfl⟩)) | (go_at_call 37; ((with_reducible refine (HSG.out _ (HDS.out.drewN _) (HCr.out.kp ((Kp.refl _ _ _).drewN _))).mono ?_); rintro e w9 ⟨v', rfl, hs9, ho9, hk9, hf9⟩; have HD9 := hid ((HDS.out.drewN k1).fr hqB (.inr ⟨by omega, by omega, HS2.out⟩) (by omega) hs9 ho9 hk9 hf9))))
      go_roundg (N + 1 - q2)
      case measure => have := HN.out; simp; omega
      case rel => exact ⟨1, q2, _, xs, by simp, rfl, rfl, rfl, HD9, Nat.le_trans hbr hk9.size⟩
    · -- mode 5
      obtain ⟨n, q2, hq2, hq3, hne, h31, hS2⟩ := Says.invE HSY.out
      have hol := Nat.le_trans (says_len hS2) hX
      rw [List.length_append] at hol
      have hpW := says_lt HSY.out
      have hNW := HN.out
      have HAV := hid (available q A N c (8 * p) wr (HN.out ▸ HDS.out.src) (by omega) (by omega))
      obtain ⟨D, hD⟩ : ∃ D, D = 8 * N - 8 * p := ⟨_, rfl⟩
      have hD8 : (0 : Int) < (D : Int) := by have := HN.out; omega
      rw [← hD] at HAV
      clear hD hNW
      have HSG := hid (fun V (h : DS W X A c q B mb w 5 p o xs u5 u7 V) (hC : Rdr W A c q B V) => segE W A c q B p q2 n u5 o V hC h.src h.own hq2 hq3 hne h31 (by omega))
      have hpq : p < q2 := by omega
      have HS2 := hid hS2
      clear hq2 hq3 hne h31 hS2
      go_wp2_with (first | (go_at_call 33; ((with_reducible refine HAV.out.mono ?_); rintro e w1 ⟨rfl, k1, rfl⟩)) | (go_at_call 38; ((with_reducible refine (HSG.out _ (HDS.out.drewN _) (HCr.out.kp ((Kp.refl _ _ _).drewN _))).mono ?_); rintro e w9 ⟨v', rfl, hs9, ho9, hk9, hf9⟩; have HD9 := hid ((HDS.out.drewN k1).fr hqB (.inr ⟨by omega, by omega, HS2.out⟩) (by omega) hs9 ho9 hk9 hf9))))
      go_roundg (N + 1 - q2)
      case measure => have := HN.out; simp; omega
      case rel => exact ⟨1, q2, _, xs, by simp, rfl, rfl, rfl, HD9, Nat.le_trans hbr hk9.size⟩
    · -- mode 6
      obtain ⟨s, hs1, hs16, hs256, hAt, hp1, hS2⟩ := Says.invB HSY.out
      have hol := Nat.le_trans (says_len hS2) hX
      rw [List.length_append] at hol
      have hpW := says_lt HSY.out
      have hNW := HN.out
      have HAV := hid (available q A N c (8 * p) wr (HN.out ▸ HDS.out.src) (by omega) (by omega))
      obtain ⟨D, hD⟩ : ∃ D, D = 8 * N - 8 * p := ⟨_, rfl⟩
      have hD8 : (0 : Int) < (D : Int) := by have := HN.out; omega
      rw [← hD] at HAV
      clear hD hNW
      have HSG := hid (fun V (h : DS W X A c q B mb w 6 p o xs u5 u7 V) (hC : Rdr W A c q B V) => segB W A c q B p u5 u7 o s xs V hC h.src h.own h.ownb h.apart (by have := h.xn; omega) hs1 hs16 hs256 hAt hp1 (by omega))
      have HS2 := hid hS2
      obtain ⟨q2, hq2⟩ : ∃ q2, q2 = p + (lenW s.length).length + s.length := ⟨_, rfl⟩
      have hpq : p + 1 ≤ q2 := by omega
      rw [← hq2] at HS2 HSG
      have HPW := hid hpW
      have HS16 := hid hs16
      have HPQ := hid hpq
      have hqw := Nat.lt_of_lt_of_le hqB hbr
      clear hAt hS2 hq2
      go_wp2_with (first | (go_at_call 33; ((with_reducible refine HAV.out.mono ?_); rintro e w1 ⟨rfl, k1, rfl⟩)) | (go_at_call 39; ((with_reducible refine (HSG.out _ (HDS.out.drewN _) (HCr.out.kp ((Kp.refl _ _ _).drewN _))).mono ?_); rintro e w9 ⟨v', b', g, rfl, hsr9, ho9, hob9, hap9, hk9, har9, hg9, hv9, hb9, hf9⟩; have HD9 := hid ((HDS.out.drewN k1).segB HS2.out HPQ.out HPW.out HS16.out hsr9 ho9 hob9 hap9 hk9 hqw har9 hg9 hv9 hb9 hf9))))
      go_roundg (N + 1 - q2)
      case measure => have := HN.out; simp; omega
      case rel => exact ⟨1, q2, _, _, by simp, rfl, rfl, rfl, HD9, Nat.le_trans hbr hk9.size⟩
end Go.Proofs.YtfmjkflihnfneaaDoor
