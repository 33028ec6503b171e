/- spec.RSHurt: words of which some are others. -/
import Derived.Test.YtpkmknbmjlnkgaaCorM
import Derived.Test.YtpkmknbmjlnkgaaDecI
namespace Go.Proofs.Ytpkmknbmjlnkgaa
open Go.RowKit
set_option linter.unusedVariables false

def upd (e : Nat → Nat) (k v : Nat) : Nat → Nat := fun j => if j = k then v else e j
theorem hurt_step {m : Nat} {c out Ps : List Nat} {e : Nat → Nat} {k v : Nat} (H : Hurt m c out Ps e) (hk : k < c.length) (hn : k ∉ Ps) (hv : v < 2 ^ m) (hA : out.getD k 0 < 2 ^ m) : Hurt m c (out.set k (out.getD k 0 ^^^ v)) (k :: Ps) (upd e k v) := by
  have hko : k < out.length := by rw [H.len]; exact hk
  refine ⟨List.nodup_cons.2 ⟨hn, H.nd⟩, fun j hj => ?_, by rw [List.length_set, H.len], fun y hy => ?_, fun j hj hjP => ?_, fun j hj => ?_, fun j => ?_⟩
  · rcases List.mem_cons.1 hj with h1 | h1
    · rw [h1]; exact hk
    · exact H.lt j h1
  · rcases List.mem_or_eq_of_mem_set hy with h1 | h1
    · exact H.all y h1
    · rw [h1]; exact Nat.xor_lt_two_pow hA hv
  · rw [getD_set _ _ _ _ hko, if_neg (fun e1 => hjP (by simp [e1]))]
    exact H.off j hj (fun h1 => hjP (by simp [h1]))
  · rw [getD_set _ _ _ _ hko]
    unfold upd
    by_cases hjk : j = k
    · rw [if_pos hjk, if_pos hjk, hjk, H.off k hk hn]
    · rw [if_neg hjk, if_neg hjk]
      exact H.on j ((List.mem_cons.1 hj).resolve_left hjk)
  · unfold upd
    split
    · exact hv
    · exact H.el j
theorem hurt_none {m : Nat} {c : List Nat} (hc : AllIn m c) : Hurt m c c [] (fun _ => 0) :=
  ⟨List.nodup_nil, fun _ h => by simp at h, rfl, hc, fun _ _ _ => rfl, fun _ h => by simp at h, fun _ => Nat.two_pow_pos m⟩

/-- The places that were hit. -/
def HitsAt (hit : List Bool) (Ps : List Nat) (n : Nat) : Prop := hit.length = n ∧ ∀ j, j < n → hit.getD j false = decide (j ∈ Ps)
theorem hits_none (n : Nat) : HitsAt (List.replicate n false) [] n := ⟨by simp, fun j hj => by simp [List.getD, hj]⟩
theorem hits_step {hit : List Bool} {Ps : List Nat} {n k : Nat} (h : HitsAt hit Ps n) (hk : k < n) : HitsAt (hit.set k true) (k :: Ps) n := by
  refine ⟨by rw [List.length_set, h.1], fun j hj => ?_⟩
  by_cases hjk : j = k
  · subst hjk
    rw [List.getD, List.getElem?_set_self (by rw [h.1]; exact hj)]
    simp
  · rw [List.getD, List.getElem?_set_ne (fun e => hjk e.symm), ← List.getD, h.2 j hj]
    simp [hjk]

/-- Words of which at most so many are others. -/
def HurtOut (m : Nat) (c : List Nat) (most : Nat) (w : World) (e : Ending) (w' : World) : Prop :=
  ∃ out Ps er, Hurt m c out Ps er ∧ (∀ k ∈ Ps, 0 < er k) ∧ Ps.length ≤ most ∧ ListOut out w e w'

theorem info4 : (Try.prog.info? 4).map (fun i => (i.zero, i.size, i.bytes)) = some (some (.bool false), 1, 1) := by kernel_rfl
theorem info_parts4 (h : (Try.prog.info? 4).map (fun i => (i.zero, i.size, i.bytes)) = some (some (.bool false), 1, 1)) : ∃ i, Try.prog.info? 4 = some i ∧ i.zero = some (.bool false) ∧ i.size = 1 ∧ i.bytes = 1 := by
  cases hi : Try.prog.info? 4 with
  | none => rw [hi] at h; simp at h
  | some i =>
    rw [hi] at h
    simp only [Option.map_some, Option.some.injEq, Prod.mk.injEq] at h
    exact ⟨i, rfl, h.1, h.2.1, h.2.2⟩
theorem hit_cell {w : World} {g n : Nat} {hit : List Bool} {Ps : List Nat} (hA : Arr w g 4 (hit.map Value.bool)) (hH : HitsAt hit Ps n) {k : Nat} (hk : k < n) : w.cell? ⟨g, k, none⟩ = some (.bool (decide (k ∈ Ps))) := by
  rw [hA.cell? k, ← hH.2 k hk]
  simp [List.getD, List.getElem?_eq_getElem (show k < hit.length by rw [hH.1]; exact hk)]

set_option maxRecDepth 20000 in
set_option maxHeartbeats 4000000 in
theorem rsHurt (p N base m : Nat) (A1 : Option Addr) (n c1 : Nat) (l : List Nat) (A2 : Option Addr) (n2 c2 : Nat) (zs2 : List Int) (A3 : Option Addr) (n3 c3 : Nat) (zs3 : List Int) (most : Nat) (w : World) (h : IsGF p m) (hN : Hid (N = 2 ^ m)) (hR : Rd w A1 n (ints l)) (hn1 : 1 ≤ n) (hn : n ≤ 1000) (hA : AllIn m l)
    (hR2 : Rd w A2 n2 (zs2.map (Value.int .u16))) (hn2 : n2 ≤ 2147483647) (hz2 : ∀ j, 0 ≤ zs2.getD j 0 ∧ zs2.getD j 0 ≤ 65535) (hR3 : Rd w A3 n3 (zs3.map (Value.int .u16))) (hn3 : n3 ≤ 2147483647) (hz3 : ∀ j, 0 ≤ zs3.getD j 0 ∧ zs3.getD j 0 ≤ 65535) (hmo : most ≤ 1000) :
    Calls Try.prog 28 #[fieldVal p N base, .slice A1 n c1, .slice A2 n2 c2, .slice A3 n3 c3, .int .i64 most] w (HurtOut m l most w) := by
  obtain ⟨i0, hi, hz0, hz1, hz2'⟩ := info_parts info3
  obtain ⟨i4, hi4, hb0, hb1, hb2⟩ := info_parts4 info4
  have hN1 : N ≤ 4096 := by rw [hN.out]; exact Nat.pow_le_pow_right (n := 2) (by omega) h.small
  have hN4 : 4 ≤ N := by rw [hN.out]; exact Nat.pow_le_pow_right (n := 2) (by omega) h.pos
  have hl : l.length = n := by have := hR.1; simpa [ints] using this
  have HL := hid hl
  have H := hid h
  have HA := hid hA
  have HZ2 := hid hz2
  have HZ3 := hid hz3
  have HR2 := hid hR2
  have HR3 := hid hR3
  clear hl h hA hz2 hz3 hR2 hR3
  have hmk := fun W => run_make (P := Try.prog) W 74 4 i4 (.bool false) Try.underlying74 hi4 hb0 .i64 .i64 (n : Int) (n : Int) (by omega) (by omega) (by rw [hb2]; omega) (by omega)
  simp only [hb1] at hmk
  unfold fieldVal
  have b0 : Below w.heap.size w (w.alloc (.cells #[.int .i64 p, .int .i64 N, .int .i64 base] 23)) := (Below.refl _ _).alloc (Nat.le_refl _) _
  have b1 : Below w.heap.size w ((w.alloc (.cells #[.int .i64 p, .int .i64 N, .int .i64 base] 23)).alloc (.cells #[] 3)) := b0.alloc b0.size _
  have HF := hid (Arr.of_new w 23 #[.int .i64 p, .int .i64 N, .int .i64 base])
  have hlen : (ints l).length = n := by rw [ints_length, HL.out]
  go_enter Try.func28, Try.ntmps28
  go_wp2_with (at_builtin; (refine wpList_app _ rfl _ _ 30 rfl (w.heap.size + 1) 3 i0 _ 8 Try.underlying30 hi hz0 hz1 hz2' rfl (.slice (some ⟨w.heap.size + 1, 0, none⟩) 0 0) [] rfl (by have := Own.lit0 (w.alloc (.cells #[.int .i64 p, .int .i64 N, .int .i64 base] 23)) 3 (B := w.heap.size + 1) (by simp); simpa using this) A1 n c1 (ints l) rfl ((hR.alloc _).alloc _) (ints_one _) (by simp [maxLen]; omega) (by simp; omega) (by simp) ?_))
  intro v1 w2 hO hg _
  have HB := hid (show Below w.heap.size w w2 from b1.grown hg (by simp; omega) (fun j hj => by simp [Value.ownBlock] at hj; omega))
  have HF2 := hid ((HF.out.alloc (.cells #[] 3)).grown hg (by simp [Value.ownBlock]))
  have HS2 := hid (show w.heap.size + 2 ≤ w2.heap.size from Nat.le_trans (by simp) hg.size)
  obtain ⟨tb, tc, cur, hv2, htb, hT, htl, htc, hTR⟩ := hO.arr (by rw [hlen]; exact hn1)
  rw [hlen] at hv2 htl htc hTR
  subst hv2
  have hcf := cur_front hT hTR htl
  rw [hcf] at hT
  have htbl := hT.lt
  have HT := hid hT
  generalize cur.drop n = rest at *
  clear hO hg b0 b1 HF hR hcf hT hTR htl hlen
  go_wp2_with fail
  have HA3 := hid (Arr.made w2 4 (.bool false) n)
  have HB3 := hid (HB.out.alloc HB.out.size (.cells (madeCells #[.bool false] n) 4))
  have HT3 := hid (HT.out.alloc (.cells (madeCells #[.bool false] n) 4))
  have HF3 := hid (HF2.out.alloc (.cells (madeCells #[.bool false] n) 4))
  generalize w2.heap.size = hb at *
  generalize w2.alloc (.cells (madeCells #[.bool false] n) 4) = w3 at *
  clear hmk HB HF2 HT
  go_loopw [4, 13] (fun mv iv wr => ∃ (i mo : Nat) (out Ps : List Nat) (er : Nat → Nat) (hit : List Bool), i ≤ n2 ∧ iv = .int .i64 (i : Nat) ∧ mv = .int .i64 (mo : Nat) ∧ Ps.length + mo ≤ most ∧ Hid (Hurt m l out Ps er) ∧ Hid (∀ k ∈ Ps, 0 < er k) ∧ Hid (HitsAt hit Ps n) ∧ Arr wr tb 3 (ints out ++ rest) ∧ Arr wr hb 4 (hit.map Value.bool) ∧ Arr wr w.heap.size 23 [.int .i64 p, .int .i64 N, .int .i64 base] ∧ Below w.heap.size w wr) (fun _ iv _ => n2 - (intOf iv).toNat)
  case atStart => exact ⟨0, most, l, [], fun _ => 0, List.replicate n false, by omega, rfl, rfl, by simp, hid (hurt_none HA.out), hid (fun k hk => by simp at hk), hid (hits_none n), HT3.out, by simpa using HA3.out, HF3.out, HB3.out⟩
  case round =>
    clear HA3 HB3 HT3 HF3
    obtain ⟨i, mo, out, Ps, er, hit, hi', rfl, rfl, hPm, HH, HP, HHA, hT, hHb, hF, hB⟩ := hrel
    have HT := hid hT
    have HHB := hid hHb
    have HF := hid hF
    have HB := hid hB
    have hol := hid (show out.length = n from HH.out.len.trans HL.out)
    clear hT hHb hF hB
    by_cases hgo : i < n2 ∧ 0 < mo
    · obtain ⟨hlt, hmo0⟩ := hgo
      have hlt' : (i : Int) < (n2 : Int) := by omega
      have hmo' : (0 : Int) < (mo : Int) := by omega
      have hn' : (0 : Int) < (n : Int) := by omega
      obtain ⟨b, o, rfl, hbw, hc⟩ := rd_z (HR2.out.below HB.out) i hlt
      have hzr := HZ2.out i
      generalize zs2.getD i 0 = z at *
      obtain ⟨zn, rfl⟩ := Int.eq_ofNat_of_zero_le hzr.1
      have e1 : (zn : Int) % (n : Int) = ((zn % n : Nat) : Int) := (Int.natCast_emod _ _).symm
      have hkn : zn % n < n := Nat.mod_lt _ (by omega)
      generalize zn % n = k at *
      have hkn' : (k : Int) < (n : Int) := by omega
      have hck := hit_cell HHB.out HHA.out hkn
      by_cases hk : k ∈ Ps
      · rw [decide_eq_true hk] at hck
        clear hk
        go_wp2_with fail
        go_roundw
        case rel => exact ⟨i + 1, mo, out, Ps, er, hit, by omega, by go_num, rfl, hPm, HH, HP, HHA, HT.out, HHB.out, HF.out, HB.out⟩
        case measure => simp [intOf]; omega
      · rw [decide_eq_false hk] at hck
        have HK := hid hk
        clear hk
        have hfh := HHB.out.frozen k
        have hhl : k < (hit.map Value.bool).length := by rw [List.length_map, HHA.out.1]; exact hkn
        have HT4 := hid (HT.out.far (p := ⟨hb, k, none⟩) (by simp; omega) (.bool true))
        have HF4 := hid (HF.out.far (p := ⟨hb, k, none⟩) (by simp; omega) (.bool true))
        have HH4 := hid (HHB.out.set k (.bool true))
        have HB4 := hid (HB.out.setCell (p := ⟨hb, k, none⟩) (by simp; omega) (.bool true))
        have hx : ∀ v, v < N - 1 → 1 + v < 2 ^ m := fun v hv => by rw [← hN.out]; omega
        have hok := getD_lt H.out HH.out.all k
        have HST := hid (fun v (hv : v < N - 1) => hurt_step HH.out (k := k) (v := 1 + v) (by rw [HL.out]; exact hkn) HK.out (hx v hv) hok)
        have HSP := hid (fun v => show ∀ j ∈ k :: Ps, 0 < upd er k (1 + v) j from fun j hj => by
          unfold upd
          split
          · omega
          · rename_i hne
            exact HP.out j ((List.mem_cons.1 hj).resolve_left hne))
        have HHS := hid (hits_step HHA.out hkn)
        have hct : ∀ W, Arr W tb 3 (ints out ++ rest) → W.cell? ⟨tb, k, none⟩ = some (.int .i64 (out.getD k 0 : Nat)) := fun W hW => by
          rw [hW.cell? k, List.getElem?_append_left (by rw [ints_length, hol.out]; exact hkn)]
          simp [ints, List.getD, List.getElem?_eq_getElem (show k < out.length by rw [hol.out]; exact hkn)]
        have ct4 := hct _ HT4.out
        have cf4 : (wr.setCell ⟨hb, k, none⟩ (.bool true)).cell? ⟨w.heap.size, 1, none⟩ = some (.int .i64 N) := HF4.out.cell? 1
        have fz4 := HT4.out.frozen k
        have HSET := hid (fun v => show (ints out ++ rest).set k (.int .i64 (out.getD k 0 ^^^ v : Nat)) = ints (out.set k (out.getD k 0 ^^^ v)) ++ rest from by
          rw [List.set_append_left _ _ (by rw [ints_length, hol.out]; exact hkn)]
          simp [ints])
        have hmap := hid (show (hit.map Value.bool).set k (.bool true) = (hit.set k true).map Value.bool from by simp)
        have hxor : ∀ v : Nat, v < N - 1 → bits .xor .i64 (out.getD k 0 : Nat) (1 + (v : Int)) = ((out.getD k 0 ^^^ (1 + v) : Nat) : Int) := fun v hv => by
          have := i64_xor (out.getD k 0) (1 + v) (by rw [← hN.out] at hok; omega) (by omega)
          rw [← this]; congr 1
        have hlo := hid hok
        clear hok hct hx
        by_cases h3 : i < n3
        · have h3' : (i : Int) < (n3 : Int) := by omega
          obtain ⟨b3, o3, rfl, hbw3, hc3⟩ := rd_z (HR3.out.below HB4.out) i h3
          have hyr := HZ3.out i
          generalize zs3.getD i 0 = y at *
          obtain ⟨yn, rfl⟩ := Int.eq_ofNat_of_zero_le hyr.1
          have e2 : (yn : Int) % ((N : Int) - 1) = ((yn % (N - 1) : Nat) : Int) := by
            rw [show (N : Int) - 1 = ((N - 1 : Nat) : Int) from by omega]
            exact (Int.natCast_emod _ _).symm
          have hv := Nat.mod_lt yn (show 0 < N - 1 by omega)
          generalize yn % (N - 1) = v at *
          have hxv := hxor v hv
          have HST2 := hid (HST.out v hv)
          have HSP2 := hid (HSP.out v)
          have HSET2 := hid (HSET.out (1 + v))
          generalize out.getD k 0 ^^^ (1 + v) = ov at *
          generalize out.getD k 0 = ok at *
          clear HST HSP HSET hxor
          go_wp2_with fail
          go_region
          all_goals (
            go_wp2_with fail
            go_roundw
            case rel =>
              refine ⟨i + 1, mo - 1, _, k :: Ps, _, _, by omega, by go_num, by go_num, by simp only [List.length_cons]; omega, HST2, HSP2, HHS, ?_, ?_, ?_, ?_⟩
              · rw [← HSET2.out]
                exact (HT4.out.drew).set _ _
              · rw [← hmap.out]
                exact (HH4.out.drew).far (by simp; omega) _
              · exact (HF4.out.drew).far (by simp; omega) _
              · exact Below.setCell HB4.out.drew (by simp; omega) _
            case measure => simp [intOf]; omega)
        · have h3' : ¬ (i : Int) < (n3 : Int) := by omega
          have e2 : (0 : Int) % ((N : Int) - 1) = ((0 : Nat) : Int) := by simp
          have hxv : bits .xor .i64 (out.getD k 0 : Nat) 1 = ((out.getD k 0 ^^^ (1 + 0) : Nat) : Int) := by have := hxor 0 (by omega); exact this
          have HST2 := hid (HST.out 0 (by omega))
          have HSP2 := hid (HSP.out 0)
          have HSET2 := hid (HSET.out (1 + 0))
          generalize out.getD k 0 ^^^ (1 + 0) = ov at *
          generalize out.getD k 0 = ok at *
          clear HST HSP HSET hxor
          go_wp2_with fail
          go_region
          all_goals (
            go_wp2_with fail
            go_roundw
            case rel =>
              refine ⟨i + 1, mo - 1, _, k :: Ps, _, _, by omega, by go_num, by go_num, by simp only [List.length_cons]; omega, HST2, HSP2, HHS, ?_, ?_, ?_, ?_⟩
              · rw [← HSET2.out]
                exact (HT4.out.drew).set _ _
              · rw [← hmap.out]
                exact (HH4.out.drew).far (by simp; omega) _
              · exact (HF4.out.drew).far (by simp; omega) _
              · exact Below.setCell HB4.out.drew (by simp; omega) _
            case measure => simp [intOf]; omega)
    · have HEND := hid (show HurtOut m l most w (.returned (.slice (some ⟨tb, 0, none⟩) n tc)) wr from ⟨out, Ps, er, HH.out, HP.out, by omega, some ⟨tb, 0, none⟩, tc, by rw [hol.out], by rw [hol.out]; exact htc, by
        have := rd_front HT.out hol.out
        rwa [hol.out], fun a e => by injection e with e; rw [← e]; simp; omega, HB.out⟩)
      have hn' : (0 : Int) < (n : Int) := by omega
      by_cases h1 : i < n2
      · have h1' : (i : Int) < (n2 : Int) := by omega
        have h2' : ¬ (0 : Int) < (mo : Int) := by omega
        clear hgo
        go_wp2_with fail
        go_ret
        exact HEND.out
      · have h1' : ¬ (i : Int) < (n2 : Int) := by omega
        clear hgo
        go_wp2_with fail
        go_ret
        exact HEND.out
end Go.Proofs.Ytpkmknbmjlnkgaa
