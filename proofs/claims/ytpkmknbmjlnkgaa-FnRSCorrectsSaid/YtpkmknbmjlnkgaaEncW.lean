/- The package's encoder: it refuses no words and no data, and nothing else. -/
import Derived.Test.YtpkmknbmjlnkgaaGenW
namespace Go.Proofs.Ytpkmknbmjlnkgaa
open Go.RowKit
set_option linter.unusedVariables false

/-- A slice of n elements can be read: each is one cell. -/
def Rdy (w : World) (A : Option Addr) (n : Nat) : Prop := ∃ xs, Rd w A n xs ∧ ∀ u ∈ xs, u.oneCell' = true
theorem Rdy.set {w : World} {A : Option Addr} {n : Nat} (h : Rdy w A n) (p : Addr) (v : Value) (hv : v.oneCell' = true) : Rdy (w.setCell p v) A n := by
  obtain ⟨xs, hR, h1⟩ := h
  rcases Nat.eq_zero_or_pos n with h0 | h0
  · subst h0
    have e := List.eq_nil_of_length_eq_zero hR.1
    subst e
    exact ⟨[], ⟨rfl, fun h => absurd h (by omega)⟩, fun u hu => by simp at hu⟩
  obtain ⟨b, o, rfl, hb, hc⟩ := hR.2 h0
  have hl := hR.1
  have key : ∀ k, k < n → ∃ u, (w.setCell p v).cell? ⟨b, o + k, none⟩ = some u ∧ u.oneCell' = true := by
    intro k hk
    have hck := hc k (by omega)
    by_cases e : p = ⟨b, o + k, none⟩
    · exact ⟨v, by rw [← e] at hck ⊢; exact World.cell?_setCell_same w p v hck, hv⟩
    · exact ⟨xs[k], by rw [World.cell?_setCell_other w p _ v e]; exact hck, h1 _ (List.getElem_mem _)⟩
  refine ⟨(List.range n).map (fun k => ((w.setCell p v).cell? ⟨b, o + k, none⟩).getD undef), ⟨by simp, fun _ => ⟨b, o, rfl, by simpa using hb, fun k hk => ?_⟩⟩, fun u hu => ?_⟩
  · simp only [List.length_map, List.length_range] at hk
    obtain ⟨u, hu, _⟩ := key k hk
    simp [hu]
  · obtain ⟨k, hk, rfl⟩ := List.mem_map.1 hu
    obtain ⟨u, hu, h2⟩ := key k (by simpa using hk)
    rw [hu]
    exact h2
theorem encode0 (x : Option Addr) (s : Value) (w : World) : Calls Try.prog 42 #[.pointer x, s, .int .i64 0] w (ErrOut w) := by
  go_enter Try.func42, Try.ntmps42
  go_wp2_with (go_at_call 52; ((with_reducible refine (errNew _ _).mono ?_); rintro e w' ⟨a, rfl, hb⟩))
  go_ret
  exact ⟨_, rfl, hb⟩
theorem encodeNone (x : Option Addr) (A : Option Addr) (n c ec : Nat) (w : World) (hn : n ≤ ec) (h1 : 1 ≤ ec) (hec : ec ≤ 1000) : Calls Try.prog 42 #[.pointer x, .slice A n c, .int .i64 ec] w (ErrOut w) := by
  have h2 : ¬ (ec : Int) ≤ 0 := by omega
  have h3 : (n : Int) - (ec : Int) ≤ 0 := by omega
  go_enter Try.func42, Try.ntmps42
  go_wp2_with (go_at_call 52; ((with_reducible refine (errNew _ _).mono ?_); rintro e w' ⟨a, rfl, hb⟩))
  go_ret
  exact ⟨_, rfl, hb⟩

set_option maxRecDepth 100000 in
set_option maxHeartbeats 4000000 in
theorem encodeOk (x g p m base q1 ec dn n tb tc B : Nat) (l : List Nat) (v : Value) (cur : List Value) (w0 w : World) (h : IsGF p m) (hb1 : base ≤ 1) (hF0 : IsField w0 g p m base) (hE : IsEnc w w0.heap.size x g v [.pointer (some ⟨q1, 0, none⟩)]) (hP : IsPoly w w0.heap.size q1 (.pointer (some ⟨g, 0, none⟩)) [1]) (hBw : Below w0.heap.size w0 w)
    (hT : Arr w tb 3 cur) (hcur : n ≤ cur.length) (hR : Rd w (some ⟨tb, 0, none⟩) n (ints l)) (hlA : AllIn m l) (hn : Hid (n = dn + ec)) (hn' : n ≤ dn + ec) (hn'' : dn + ec ≤ n) (hd1 : 1 ≤ dn) (hdn : dn ≤ 300) (hec1 : 1 ≤ ec) (hec : ec ≤ 100) (hec2 : ec + base ≤ 2 ^ m) (hBt : B ≤ tb) (hB2 : B ≤ w0.heap.size) (htl : tb < w0.heap.size) (htc : n ≤ tc) :
    Calls Try.prog 42 #[fieldPtr x, .slice (some ⟨tb, 0, none⟩) n tc, .int .i64 ec] w (fun e w' => e = .returned .nilIface ∧ Below B w w') := by
  obtain ⟨i0, hi, hz0, hz1, hz2⟩ := info_parts info3
  have hll : l.length = n := by have := hR.1; simpa [ints] using this
  have hN1 : 2 ^ m ≤ 4096 := Nat.pow_le_pow_right (n := 2) (by omega) h.small
  have h2 : ¬ (ec : Int) ≤ 0 := by omega
  have h3 : ¬ (n : Int) - (ec : Int) ≤ 0 := by omega
  have h4 : (0 : Int) ≤ (n : Int) - (ec : Int) := by omega
  have hnn : ((n : Int) - (ec : Int)).toNat = dn := by omega
  have hmk := fun W => run_make (P := Try.prog) W 30 3 i0 (.int .i64 0) Try.underlying30 hi hz0 .i64 .i64 ((n : Int) - (ec : Int)) ((n : Int) - (ec : Int)) (by omega) (by omega) (by rw [hz2]; omega) (by omega)
  simp only [hz1, hnn] at hmk
  have hin3 : (Try.prog.info? 3).map (·.size) = some 1 := by rw [hi]; simp [hz1]
  have HNN := hid hnn
  have H := hid h
  have HF0 := hid hF0
  have hxl : x < w.heap.size := hE.2.1.lt
  have hA := hE.2.1
  have HAX := hid hA
  have HBW := hid hBw
  have bg := buildGen x g p m base q1 ec v w0 w h hb1 hF0 hE hP hBw hec1 hec hec2
  have HT := hid hT
  have HR := hid hR
  have HLA := hid hlA
  have HLL := hid hll
  have hws := hBw.size
  have HX0 := hid (show w.cell? ⟨x, 0, none⟩ = some (.pointer (some ⟨g, 0, none⟩)) from hA.cell? 0)
  clear hnn h hF0 hE hP hBw hT hR hlA hll hA hi hz0 hz1 hz2
  unfold fieldPtr at *
  go_enter Try.func42, Try.ntmps42
  go_wp2_with fail
  refine bg.mono ?_
  rintro e w1 ⟨qg, Bg, G, rfl, hG, hGG, hG0, hB1, hx0, hws1⟩
  clear bg
  have HG1 := hid hG
  have HGG := hid hGG
  have HG0 := hid hG0
  have HB1 := hid hB1
  have HX1 := hid hx0
  have HWS1 := hid hws1
  have hs1 : w0.heap.size ≤ w1.heap.size := hB1.size
  -- what is encoded, as it lies now
  have hTw : tb < w0.heap.size := htl
  have bT : w1.heap[tb]? = w.heap[tb]? := (hB1.block tb htl).trans (HBW.out.block tb htl).symm
  have HT1 := hid (show Arr w1 tb 3 cur from bT.trans HT.out)
  have RT1 : Rd w1 (some ⟨tb, 0, none⟩) n (ints l) := ⟨HR.out.1, fun hn => by
    obtain ⟨b, o, he, hb, hc⟩ := HR.out.2 hn
    cases he
    exact ⟨tb, 0, rfl, Nat.lt_of_lt_of_le htl hs1, fun k hk => (World.cell?_of_block (w := w) (a := ⟨tb, 0 + k, none⟩) bT).trans (hc k hk)⟩⟩
  have HRT1 := hid RT1
  clear hG hGG hG0 hB1 hx0 hws1 RT1 bT
  have A2 := Arr.made w1 3 (.int .i64 0) dn
  have RL : Rd (w1.alloc (.cells (madeCells #[.int .i64 0] dn) 3)) (some ⟨tb, 0, none⟩) dn (ints (l.take dn)) := by
    have := (HRT1.out.alloc (.cells (madeCells #[.int .i64 0] dn) 3)).take dn (by omega)
    rwa [ints, ← List.map_take] at this
  have RN := hid (rd_news RL)
  have HLT := hid (show (l.take dn).length = dn by rw [List.length_take, HLL.out]; omega)
  have HXS := hid (show splice (List.replicate dn (Value.int .i64 0)) 0 (ints (l.take dn)) = ints (l.take dn) by rw [splice_start dn dn _ (Nat.le_refl _) HLT.out, Nat.sub_self]; simp)
  have HA2 := hid A2
  have HBB := hid (show Below w1.heap.size w1 (w1.alloc (.cells (madeCells #[.int .i64 0] dn) 3)) from (Below.refl _ _).alloc (Nat.le_refl _) _)
  clear A2 RL
  go_wp2_with (refine wpList_copy_splice rfl (.tmp 33) (.tmp 34) 30 30 rfl 3 Try.underlying30 hin3 (some ⟨w1.heap.size, 0, none⟩) (some ⟨tb, 0, none⟩) dn dn n tc rfl rfl w1.heap.size 0 (List.replicate dn (.int .i64 0)) 3 HA2.out (ints (l.take dn)) (by rw [ints_length, HLT.out]; exact (Nat.min_eq_right (by omega)).symm) (fun _ => ⟨rfl, _, rfl, RN.out⟩) (by rw [ints_length, HLT.out, List.length_replicate]; omega) (ints_one _) w1.heap.size w1 HBB.out (Nat.le_refl _) ?_)
  intro w2 hw2 hB2
  have A2 : Arr w2 w1.heap.size 3 (ints (l.take dn)) := by rw [← HXS.out]; exact hw2.out
  have R2 := Rd.of_arr A2
  rw [ints_length, HLT.out] at R2
  have np := newPoly (some ⟨g, 0, none⟩) (some ⟨w1.heap.size, 0, none⟩) dn dn (l.take dn) w1.heap.size w2 R2 (by omega) (by omega) (Nat.le_refl _) (fun a e => by injection e with e; subst e; exact Nat.le_refl _) hB2.size
  have hx1 : x < w1.heap.size := World.block_lt_of_cell? w1 _ HX1.out
  have k0 := (hB2.cell (p := ⟨x, 0, none⟩) hx1).trans HX1.out
  have HB2 := hid hB2
  have HDI := hid (show AllIn m (l.take dn) from fun z hz => HLA.out z (List.mem_of_mem_take hz))
  have HGD := hid (show Good m dn (tidy (l.take dn)) from good_tidy H.out HDI.out (by rw [HLT.out]; exact hd1) (by rw [HLT.out]; exact Nat.le_refl _))
  generalize tidy (l.take dn) = D at *
  clear RN HXS HA2 HBB hw2 A2 R2 hB2 hmk
  go_wp2_with fail
  refine np.mono ?_
  rintro e w3 ⟨qi, rfl, hqi, hPi, hb3⟩
  clear np k0
  have HB3 := hid (show Below w1.heap.size w1 w3 from HB2.out.trans (hb3.mono HB2.out.size))
  have hF3 : IsField w3 g p m base := HF0.out.below (HB1.out.trans (HB3.out.mono hs1))
  have mm := mulMono qi g p m base w1.heap.size 1 ec D w3 H.out hF3 hPi HGD.out.2.2.1 (by have := HGD.out.2.2.2; omega) HGD.out.2.1 (one_lt H.out) (by omega)
  have HGS := hid (show Good m 1000 (tidy (shiftl (scaleBy p m 1 D) ec)) from good_tidy H.out (shiftl_in (scale_in (c := 1) H.out HGD.out.2.1) ec) (by rw [shiftl_len]; omega) (by rw [shiftl_len, scale_len]; have := HGD.out.2.2.2; omega))
  generalize tidy (shiftl (scaleBy p m 1 D) ec) = S at *
  clear hPi hb3 hF3 HB2
  unfold fieldPtr at *
  go_wp2_with fail
  refine mm.mono ?_
  rintro e w4 ⟨qs, Bs, rfl, hPs, hb4⟩
  clear mm
  have HB4 := hid (show Below w1.heap.size w1 w4 from HB3.out.trans (hb4.mono HB3.out.size))
  have hF4 : IsField w4 g p m base := HF0.out.below (HB1.out.trans (HB4.out.mono hs1))
  have dv := divide qs qg g p m base Bs Bg S G w4 H.out hF4 hPs (HG1.out.below HB4.out) HGS.out (HGG.out.mono (by omega)) HG0.out
  clear hPs hb4 hF4 HB3
  unfold fieldPtr at *
  go_wp2_with fail
  refine dv.mono ?_
  rintro e w5 ⟨qq, qr, Br, lr, rfl, hPr, hTr, hAr, hr1, hr2, hr3, hb5⟩
  clear dv
  have HB5 := hid (show Below w1.heap.size w1 w5 from HB4.out.trans (hb5.mono HB4.out.size))
  have hrl : lr.length ≤ ec := by
    have := HGG.out.2.2.2
    rcases hr3 with h3 | h3
    · omega
    · rw [h3]; simpa using hec1
  obtain ⟨b, o, cr, r0, r1, rc, rR, rcap, rlt⟩ := hPr.coefR hr1
  have RR := hid rR
  have HT5 := hid (HT1.out.below HB5.out (Nat.lt_of_lt_of_le htl hs1))
  have gcs := getCoefs qr lr.length cr .nilIface (some ⟨b, o, none⟩) w5 r1
  have HTL := hid (show tb < w5.heap.size from Nat.lt_of_lt_of_le htl (Nat.le_trans hs1 HB5.out.size))
  have HBF := hid (show Below B w w5 from by
    have e1 : Below w0.heap.size w w1 := ⟨HB1.out.os.trans HBW.out.os.symm, HB1.out.tape.trans HBW.out.tape.symm, HB1.out.output.trans HBW.out.output.symm, HWS1.out, fun k hk => (HB1.out.block k hk).trans (HBW.out.block k hk).symm⟩
    exact (e1.trans (HB5.out.mono hs1)).mono hB2)
  have HRLN := hid (ints_length lr)
  generalize lr.length = rl at *
  clear hPr hTr hAr hr2 hr3 hb5 HB4 r0 r1 rc rR
  unfold fieldPtr at *
  go_wp2_with fail
  refine gcs.mono ?_
  rintro e w6 ⟨rfl, rfl⟩
  clear gcs
  go_wp2_with fail
  have z1 : (0 : Int) ≤ (ec : Int) - (rl : Int) := by omega
  have HCUR := hid hcur
  go_loopw [17] (fun i wr => ∃ (k : Nat) (cu : List Value), k ≤ ec - rl ∧ i = .int .i64 k ∧ Arr wr tb 3 cu ∧ n ≤ cu.length ∧ Rdy wr (some ⟨b, o, none⟩) rl ∧ Below B w wr) (fun i _ => ec - rl - (intOf i).toNat)
  case atStart => exact ⟨0, cur, by omega, rfl, HT5.out, HCUR.out, ⟨_, RR.out, ints_one _⟩, HBF.out⟩
  case round =>
    obtain ⟨k, cu, hk, rfl, hA, hcl, hRR, hB⟩ := hrel
    by_cases hlt : k < ec - rl
    · have hlt' : (k : Int) < (ec : Int) - (rl : Int) := by omega
      have j1 : (0 : Int) ≤ (n : Int) - (ec : Int) + (k : Int) := by omega
      have j2 : (n : Int) - (ec : Int) + (k : Int) < (n : Int) := by omega
      have j3 : ((n : Int) - (ec : Int) + (k : Int)).toNat = dn + k := by omega
      obtain ⟨v0, hv0⟩ := hA.has (dn + k) (by omega)
      have fz := hA.frozen (dn + k)
      have HA := hid hA
      have HRR := hid hRR
      have HB := hid hB
      clear hA hRR hB
      go_wp2_with fail
      go_roundw
      case rel => exact ⟨k + 1, _, by omega, by go_num, HA.out.set _ _, by rw [List.length_set]; exact hcl, HRR.out.set _ _ rfl, HB.out.setCell hBt _⟩
      case measure => simp [intOf]; omega
    · obtain rfl : k = ec - rl := by omega
      have hlt' : ¬ ((ec - rl : Nat) : Int) < (ec : Int) - (rl : Int) := by omega
      have j1 : (0 : Int) ≤ (n : Int) - (ec : Int) + ((ec : Int) - (rl : Int)) := by omega
      have j2 : (n : Int) - (ec : Int) + ((ec : Int) - (rl : Int)) ≤ (n : Int) := by omega
      have j4 : (n : Int) - (ec : Int) + ((ec : Int) - (rl : Int)) ≤ (tc : Int) := by omega
      have j3 : ((n : Int) - (ec : Int) + ((ec : Int) - (rl : Int))).toNat = n - rl := by omega
      obtain ⟨xs, hRx, h1x⟩ := hRR
      have RN := hid (rd_news hRx)
      have HX1 := hid h1x
      have HXL := hid hRx.1
      have HA := hid hA
      have HB := hid hB
      clear hA hB hRx h1x
      go_wp2_with (refine wpList_copy_splice rfl (.tmp 81) (.tmp 82) 30 30 rfl 3 Try.underlying30 hin3 (some ⟨tb, n - rl, none⟩) (some ⟨b, o, none⟩) (n - (n - rl)) (tc - (n - rl)) rl cr rfl rfl tb (n - rl) cu 3 HA.out xs (by rw [HXL.out]; exact (Nat.min_eq_left (by omega)).symm) (fun _ => ⟨rfl, _, rfl, RN.out⟩) (by rw [HXL.out]; omega) HX1.out B w HB.out hBt ?_)
      intro w7 _ hB7
      have HB7 := hid hB7
      clear hB7
      go_wp2_with fail
      go_ret
      exact ⟨rfl, HB7.out⟩

theorem Own.arr {w : World} {B : Nat} {e : TypeId} {v : Value} {xs : List Value} (h : Own w B e v xs) (h1 : 1 ≤ xs.length) :
    ∃ tb c cur, v = .slice (some ⟨tb, 0, none⟩) xs.length c ∧ B ≤ tb ∧ Arr w tb e cur ∧ xs.length ≤ cur.length ∧ xs.length ≤ c ∧ Rd w (some ⟨tb, 0, none⟩) xs.length xs := by
  obtain ⟨A, c, hv, hR, hc⟩ := h.form
  rcases h.2 with ⟨rfl, hx⟩ | ⟨g, cap, cur, rfl, hg, hh, hnc, _, hcs, ht⟩
  · omega
  · injection hv with e1 e2 e3
    subst e1
    exact ⟨g, cap, cur.toList, rfl, hg, by unfold Arr; rw [Array.toArray_toList]; exact hh, by have := Array.length_toList (xs := cur); omega, hnc, hR⟩

/-- A list, and true. -/
def SomeList (w : World) (e : Ending) (w' : World) : Prop := ∃ v, e = .returned (.tuple #[v, .bool true]) ∧ Below w.heap.size w w'

set_option maxRecDepth 20000 in
set_option maxHeartbeats 2000000 in
theorem implEncode0 (p m N base : Nat) (A : Option Addr) (n c : Nat) (l : List Nat) (w : World) (h : IsGF p m) (hN : Hid (N = 2 ^ m)) (hb : base ≤ 1) (hR : Rd w A n (ints l)) (hn : n ≤ 300)  :
    Calls Try.prog 25 #[fieldVal p N base, .slice A n c, .int .i64 0] w (NoList w) := by
  obtain ⟨i0, hi, hz0, hz1, hz2⟩ := info_parts info3
  have hl : l.length = n := by have := hR.1; simpa [ints] using this
  have HL := hid hl
  clear hl
  unfold fieldVal
  have b0 : Below w.heap.size w (w.alloc (.cells #[.int .i64 p, .int .i64 N, .int .i64 base] 23)) := (Below.refl _ _).alloc (Nat.le_refl _) _
  have HF := hid (Arr.of_new w 23 #[.int .i64 p, .int .i64 N, .int .i64 base])
  have hlen : (ints l).length = n := by rw [ints_length, HL.out]
  go_enter Try.func25, Try.ntmps25
  go_wp2_with (at_builtin; (refine wpList_app _ rfl (.const (.slice none 0 0)) (.tmp 10) 30 rfl (w.heap.size + 1) 3 i0 _ 8 Try.underlying30 hi hz0 hz1 hz2 rfl (.slice none 0 0) [] rfl (Own.nil _ _ _) A n c (ints l) rfl (hR.alloc _) (ints_one _) (by simp [maxLen]; omega) (by simp; omega) (by simp) ?_))
  intro v1 w2 hO hg _
  have HO := hid hO
  have HB := hid (show Below w.heap.size w w2 from b0.grown hg (by simp) (fun j hj => by simp [Value.ownBlock] at hj))
  have HF2 := hid (HF.out.grown hg (by simp [Value.ownBlock]))
  have HS2 := hid (show w.heap.size + 1 ≤ w2.heap.size from Nat.le_trans (by simp) hg.size)
  clear hO hg b0 HF hR
  go_wp2_with (at_builtin; (refine wpList_appz _ rfl (.tmp 11) (.tmp 13) 30 3 rfl (w.heap.size + 1) 3 i0 _ .i64 8 Try.underlying30 Try.underlying3 hi hz0 hz1 hz2 rfl rfl v1 (ints l) rfl HO.out 0 rfl (by rw [hlen]; omega) (by rw [hlen]; omega) HS2.out ?_))
  intro v2 w3 hO3 hg3 _
  have HO3 := hid hO3
  have HF3 := hid (HF2.out.grown hg3 (fun e => by have := (HO.out.lt w.heap.size e.symm).1; omega))
  have HB3 := hid (show Below w.heap.size w w3 from HB.out.grown hg3 HB.out.size (fun r hr => by have := (HO.out.lt r hr).1; omega))
  have d0 := HF3.out.cell? 0
  have d1 := HF3.out.cell? 1
  have d2 := HF3.out.cell? 2
  try simp only at d0 d1 d2
  have hS3 : w.heap.size + 1 ≤ w3.heap.size := Nat.le_trans HS2.out hg3.size
  clear hO3 hg3 HO HB HF2
  obtain ⟨A2, c2, hv2, _, _⟩ := HO3.out.form
  subst hv2
  go_wp2_with fail
  refine (implField p m N base _ h hN hb).mono ?_
  rintro e w4 ⟨g, rfl, hg, hF, hb4⟩
  have HF4 := hid hF
  have HB4 := hid (show Below w3.heap.size w3 w4 from hb4)
  clear hF hb4 d0 d1 d2
  unfold fieldPtr
  go_wp2_with fail
  refine (newEnc g w4).mono ?_
  rintro e w5 ⟨x, v, q1, rfl, hE, hP, hb5⟩
  have HE := hid hE
  have HP := hid hP
  have HB5 := hid hb5
  have HB35 := hid (HB4.out.trans (hb5.mono HB4.out.size))
  clear hE hP hb5
  unfold fieldPtr at *
  go_wp2_with fail
  refine (encode0 _ _ _).mono ?_
  rintro e w6 ⟨a6, rfl, hb6⟩
  have HB6 := hid (HB3.out.trans ((HB35.out.trans (hb6.mono HB35.out.size)).mono (by omega)))
  clear hb6
  go_wp2_with fail
  go_ret2
  exact ⟨rfl, HB6.out⟩

set_option maxRecDepth 20000 in
set_option maxHeartbeats 2000000 in
theorem implEncodeNone (p m N base ec : Nat) (A : Option Addr) (n c : Nat) (l : List Nat) (w : World) (h : IsGF p m) (hN : Hid (N = 2 ^ m)) (hb : base ≤ 1) (hR : Rd w A n (ints l)) (hn : n ≤ 300) (hn0 : n = 0) (hec1 : 1 ≤ ec) (hec : ec ≤ 100) :
    Calls Try.prog 25 #[fieldVal p N base, .slice A n c, .int .i64 ec] w (NoList w) := by
  obtain ⟨i0, hi, hz0, hz1, hz2⟩ := info_parts info3
  have hl : l.length = n := by have := hR.1; simpa [ints] using this
  have HL := hid hl
  clear hl
  unfold fieldVal
  have b0 : Below w.heap.size w (w.alloc (.cells #[.int .i64 p, .int .i64 N, .int .i64 base] 23)) := (Below.refl _ _).alloc (Nat.le_refl _) _
  have HF := hid (Arr.of_new w 23 #[.int .i64 p, .int .i64 N, .int .i64 base])
  have hlen : (ints l).length = n := by rw [ints_length, HL.out]
  have hec1' : (0 : Int) < (ec : Int) := by omega
  have hnn : n ≤ 0 := by omega
  clear hn0
  go_enter Try.func25, Try.ntmps25
  go_wp2_with (at_builtin; (refine wpList_app _ rfl (.const (.slice none 0 0)) (.tmp 10) 30 rfl (w.heap.size + 1) 3 i0 _ 8 Try.underlying30 hi hz0 hz1 hz2 rfl (.slice none 0 0) [] rfl (Own.nil _ _ _) A n c (ints l) rfl (hR.alloc _) (ints_one _) (by simp [maxLen]; omega) (by simp; omega) (by simp) ?_))
  intro v1 w2 hO hg _
  have HO := hid hO
  have HB := hid (show Below w.heap.size w w2 from b0.grown hg (by simp) (fun j hj => by simp [Value.ownBlock] at hj))
  have HF2 := hid (HF.out.grown hg (by simp [Value.ownBlock]))
  have HS2 := hid (show w.heap.size + 1 ≤ w2.heap.size from Nat.le_trans (by simp) hg.size)
  clear hO hg b0 HF hR
  go_wp2_with (at_builtin; (refine wpList_appz _ rfl (.tmp 11) (.tmp 13) 30 3 rfl (w.heap.size + 1) 3 i0 _ .i64 8 Try.underlying30 Try.underlying3 hi hz0 hz1 hz2 rfl rfl v1 (ints l) rfl HO.out ec rfl (by rw [hlen]; omega) (by rw [hlen]; omega) HS2.out ?_))
  intro v2 w3 hO3 hg3 _
  have HO3 := hid hO3
  have HF3 := hid (HF2.out.grown hg3 (fun e => by have := (HO.out.lt w.heap.size e.symm).1; omega))
  have HB3 := hid (show Below w.heap.size w w3 from HB.out.grown hg3 HB.out.size (fun r hr => by have := (HO.out.lt r hr).1; omega))
  have d0 := HF3.out.cell? 0
  have d1 := HF3.out.cell? 1
  have d2 := HF3.out.cell? 2
  try simp only at d0 d1 d2
  have hS3 : w.heap.size + 1 ≤ w3.heap.size := Nat.le_trans HS2.out hg3.size
  clear hO3 hg3 HO HB HF2
  obtain ⟨A2, c2, hv2, _, _⟩ := HO3.out.form
  subst hv2
  go_wp2_with fail
  refine (implField p m N base _ h hN hb).mono ?_
  rintro e w4 ⟨g, rfl, hg, hF, hb4⟩
  have HF4 := hid hF
  have HB4 := hid (show Below w3.heap.size w3 w4 from hb4)
  clear hF hb4 d0 d1 d2
  unfold fieldPtr
  go_wp2_with fail
  refine (newEnc g w4).mono ?_
  rintro e w5 ⟨x, v, q1, rfl, hE, hP, hb5⟩
  have HE := hid hE
  have HP := hid hP
  have HB5 := hid hb5
  have HB35 := hid (HB4.out.trans (hb5.mono HB4.out.size))
  clear hE hP hb5
  unfold fieldPtr at *
  go_wp2_with fail
  refine (encodeNone _ _ _ _ _ _ (?hh) hec1 (by omega)).mono ?_
  case hh => omega
  rintro e w6 ⟨a6, rfl, hb6⟩
  have HB6 := hid (HB3.out.trans ((HB35.out.trans (hb6.mono HB35.out.size)).mono (by omega)))
  clear hb6
  go_wp2_with fail
  go_ret2
  exact ⟨rfl, HB6.out⟩

set_option maxRecDepth 20000 in
set_option maxHeartbeats 2000000 in
theorem implEncodeOk (p m N base ec : Nat) (A : Option Addr) (n c : Nat) (l : List Nat) (w : World) (h : IsGF p m) (hN : Hid (N = 2 ^ m)) (hb : base ≤ 1) (hR : Rd w A n (ints l)) (hn : n ≤ 300) (hn1 : 1 ≤ n) (hA : AllIn m l) (hec1 : 1 ≤ ec) (hec : ec ≤ 100) (hec2 : ec + base ≤ 2 ^ m) :
    Calls Try.prog 25 #[fieldVal p N base, .slice A n c, .int .i64 ec] w (SomeList w) := by
  obtain ⟨i0, hi, hz0, hz1, hz2⟩ := info_parts info3
  have hl : l.length = n := by have := hR.1; simpa [ints] using this
  have HL := hid hl
  clear hl
  unfold fieldVal
  have b0 : Below w.heap.size w (w.alloc (.cells #[.int .i64 p, .int .i64 N, .int .i64 base] 23)) := (Below.refl _ _).alloc (Nat.le_refl _) _
  have HF := hid (Arr.of_new w 23 #[.int .i64 p, .int .i64 N, .int .i64 base])
  have hlen : (ints l).length = n := by rw [ints_length, HL.out]
  have hec1' : (0 : Int) < (ec : Int) := by omega
  go_enter Try.func25, Try.ntmps25
  go_wp2_with (at_builtin; (refine wpList_app _ rfl (.const (.slice none 0 0)) (.tmp 10) 30 rfl (w.heap.size + 1) 3 i0 _ 8 Try.underlying30 hi hz0 hz1 hz2 rfl (.slice none 0 0) [] rfl (Own.nil _ _ _) A n c (ints l) rfl (hR.alloc _) (ints_one _) (by simp [maxLen]; omega) (by simp; omega) (by simp) ?_))
  intro v1 w2 hO hg _
  have HO := hid hO
  have HB := hid (show Below w.heap.size w w2 from b0.grown hg (by simp) (fun j hj => by simp [Value.ownBlock] at hj))
  have HF2 := hid (HF.out.grown hg (by simp [Value.ownBlock]))
  have HS2 := hid (show w.heap.size + 1 ≤ w2.heap.size from Nat.le_trans (by simp) hg.size)
  clear hO hg b0 HF hR
  go_wp2_with (at_builtin; (refine wpList_appz _ rfl (.tmp 11) (.tmp 13) 30 3 rfl (w.heap.size + 1) 3 i0 _ .i64 8 Try.underlying30 Try.underlying3 hi hz0 hz1 hz2 rfl rfl v1 (ints l) rfl HO.out ec rfl (by rw [hlen]; omega) (by rw [hlen]; omega) HS2.out ?_))
  intro v2 w3 hO3 hg3 _
  have HO3 := hid hO3
  have HF3 := hid (HF2.out.grown hg3 (fun e => by have := (HO.out.lt w.heap.size e.symm).1; omega))
  have HB3 := hid (show Below w.heap.size w w3 from HB.out.grown hg3 HB.out.size (fun r hr => by have := (HO.out.lt r hr).1; omega))
  have d0 := HF3.out.cell? 0
  have d1 := HF3.out.cell? 1
  have d2 := HF3.out.cell? 2
  try simp only at d0 d1 d2
  have hS3 : w.heap.size + 1 ≤ w3.heap.size := Nat.le_trans HS2.out hg3.size
  clear hO3 hg3 HO HB HF2
  have e2 : ints l ++ List.replicate ec (Value.int .i64 0) = ints (shiftl l ec) := by simp [ints, shiftl]
  have hl3 : (ints (shiftl l ec)).length = n + ec := by rw [ints_length, shiftl_len, HL.out]
  have hO4 := HO3.out
  rw [e2] at hO4
  obtain ⟨tb, tc, cur, hv2, htb, hT, htl, htc, hTR⟩ := hO4.arr (by rw [hl3]; omega)
  rw [hl3] at hv2 htl htc hTR
  subst hv2
  have HT := hid hT
  have HTL := hid htl
  have HTC := hid htc
  have HTR := hid hTR
  have HTB := hid htb
  clear e2 hl3 hO4 htb hT htl htc hTR HO3
  go_wp2_with fail
  refine (implField p m N base _ h hN hb).mono ?_
  rintro e w4 ⟨g, rfl, hg, hF, hb4⟩
  have HF4 := hid hF
  have HB4 := hid (show Below w3.heap.size w3 w4 from hb4)
  clear hF hb4 d0 d1 d2
  unfold fieldPtr
  go_wp2_with fail
  refine (newEnc g w4).mono ?_
  rintro e w5 ⟨x, v, q1, rfl, hE, hP, hb5⟩
  have HE := hid hE
  have HP := hid hP
  have HB5 := hid hb5
  have HB35 := hid (HB4.out.trans (hb5.mono HB4.out.size))
  clear hE hP hb5
  unfold fieldPtr at *
  have ek := encodeOk x g p m base q1 ec n (n + ec) tb tc (w.heap.size + 1) (shiftl l ec) v cur w4 w5 h hb HF4.out HE.out HP.out HB5.out (HT.out.below HB35.out HT.out.lt) HTL.out (HTR.out.below HB35.out) (shiftl_in hA ec) (hid rfl) (Nat.le_refl _) (Nat.le_refl _) hn1 hn hec1 hec hec2 HTB.out (Nat.le_trans hS3 HB4.out.size) (Nat.lt_of_lt_of_le HT.out.lt HB4.out.size) HTC.out
  clear HT HTL HTR HE HP
  unfold fieldPtr at *
  go_wp2_with fail
  refine ek.mono ?_
  rintro e w6 ⟨rfl, hb6⟩
  clear ek
  have HB6 := hid (HB3.out.trans (((HB35.out.mono hS3).trans hb6).mono (by omega)))
  clear hb6
  go_wp2_with fail
  go_ret2
  exact ⟨_, rfl, HB6.out⟩

end Go.Proofs.Ytpkmknbmjlnkgaa
