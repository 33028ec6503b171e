/- The reference sum and rest (turned from the seat of Reed-Solomon). -/
import Derived.Test.YtliephokeafllaaGreatDoorRsC
import Derived.Deep.DrawnRows
namespace Go.Proofs.YtliephokeafllaaGreatDoor.Rs
/- The reference's sum of polynomials. -/
section
open Go.RowKit
set_option linter.unusedVariables false

theorem addL_get (a b : List Nat) (n i : Nat) (hn : n = max a.length b.length) (hi : i < n) :
    (addL a b).getD i 0 = (if n - a.length ≤ i then a.getD (i - (n - a.length)) 0 else 0) ^^^ (if n - b.length ≤ i then b.getD (i - (n - b.length)) 0 else 0) := by
  unfold addL
  split
  · rename_i h
    have e : n = a.length := by omega
    rw [e, Nat.sub_self, if_pos (Nat.zero_le _), Nat.sub_zero]
    by_cases h2 : a.length - b.length ≤ i
    · rw [if_pos h2, addSL_high (by omega) i h2 (by omega), Nat.xor_comm]
    · rw [if_neg h2, addSL_low (by omega) i (by omega), Nat.xor_zero]
  · rename_i h
    have e : n = b.length := by omega
    rw [e, Nat.sub_self, if_pos (Nat.zero_le i), Nat.sub_zero]
    by_cases h2 : b.length - a.length ≤ i
    · rw [if_pos h2, addSL_high (by omega) i h2 (by omega)]
    · rw [if_neg h2, addSL_low (by omega) i (by omega), Nat.zero_xor]

attribute [local go_sem ↓] Go.wp_at_zero Go.wp_at_succ
set_option maxRecDepth 100000 in
set_option maxHeartbeats 4000000 in
theorem rsPlus (A1 A2 : Option Addr) (la lb ca cb : Nat) (p m : Nat) (a b : List Nat) (w : World) (h : IsGF p m) (hR1 : Rd w A1 la (ints a)) (hR2 : Rd w A2 lb (ints b)) (ha1 : 1 ≤ la) (hb1 : 1 ≤ lb) (ha : la ≤ 10000) (hb : lb ≤ 10000) (hA : AllIn m a) (hB : AllIn m b) :
    Calls Tryz.prog 80 #[.slice A1 la ca, .slice A2 lb cb] w (ListOut (tidy (addL a b)) w) := by
  obtain ⟨i0, hi, hz0, hz1, hz2⟩ := info_parts info3
  have hN1 : 2 ^ m ≤ 4096 := Nat.pow_le_pow_right (n := 2) (by omega) h.small
  have hla : a.length = la := by have := hR1.1; simpa [ints] using this
  have hlb : b.length = lb := by have := hR2.1; simpa [ints] using this
  obtain ⟨n, hn⟩ : ∃ n, n = max la lb := ⟨_, rfl⟩
  have HX := hid (show (addL a b).length = n by rw [addL_len, hla, hlb, hn])
  have HG := hid (fun i hi => addL_get a b n i (by rw [hla, hlb, hn]) hi)
  have HGA := hid (getD_lt h hA)
  have HGB := hid (getD_lt h hB)
  rw [hla, hlb] at HG
  have hn1 : la ≤ n := by omega
  have hn2 : lb ≤ n := by omega
  have hn3 : n ≤ 10000 := by omega
  have hn4 : n = la ∨ n = lb := by omega
  have hmk := fun W => run_make (P := Tryz.prog) W 25 3 i0 (.int .i64 0) Tryz.underlying25 hi hz0 .i64 .i64 n n (by omega) (by omega) (by rw [hz2]; omega) (by omega)
  simp only [hz1] at hmk
  have A3 := Arr.made w 3 (.int .i64 0) n
  have e0 : List.replicate n (Value.int .i64 0) = ints ((addL a b).take 0 ++ List.replicate (n - 0) 0) := by simp [ints]
  rw [e0] at A3
  have B0 : Below w.heap.size w (w.alloc (.cells (madeCells #[.int .i64 0] n) 3)) := (Below.refl _ _).alloc (Nat.le_refl _) _
  have hmax : (if (lb : Int) > (la : Int) then (lb : Int) else (la : Int)) = (n : Int) := by split <;> omega
  generalize addL a b = X at *
  clear hla hlb hn hA hB e0 hi hz0 hz1 hz2
  go_enter Tryz.func80, Tryz.ntmps80
  by_cases hgt : (la : Int) < (lb : Int)
  · obtain rfl : n = lb := by omega
    clear hmax
    go_wp2
    generalize w.alloc (.cells (madeCells #[.int .i64 0] n) 3) = w1 at *
    clear hmk
    go_loopw [7] (fun i wr => ∃ k : Nat, k ≤ n ∧ i = .int .i64 k ∧ Arr wr w.heap.size 3 (ints (X.take k ++ List.replicate (n - k) 0)) ∧ Below w.heap.size w wr) (fun i _ => n - (intOf i).toNat)
    case atStart => exact ⟨0, by omega, rfl, A3, B0⟩
    case round =>
      clear A3 B0
      obtain ⟨k, hk, rfl, hO, hB⟩ := hrel
      by_cases hlt : k < n
      · have hlt' : (k : Int) < (n : Int) := by omega
        have hk0 : (0 : Int) ≤ (k : Int) := by omega
        have kO : wr.cell? ⟨w.heap.size, k, none⟩ = some (.int .i64 0) := by
          have := hO.cell? k
          rw [this, ints, List.getElem?_map, List.getElem?_append_right (by rw [List.length_take, HX.out]; omega), List.length_take, HX.out, Nat.min_eq_left hk, Nat.sub_self, List.getElem?_replicate, if_pos (by omega)]
          rfl
        have fz := hO.frozen k
        obtain ⟨bL, oL, rfl, hbL, kL0⟩ := rd_int hR2 k hlt
        have kL := (hB.cell (p := ⟨bL, oL + k, none⟩) hbL).trans kL0
        have HS := hid (fill_set X n k HX.out hlt)
        have HO := hid hO
        have HB := hid hB
        by_cases hc : n - la ≤ k
        · have j1 : (0 : Int) ≤ (la : Int) - (n : Int) + (k : Int) := by omega
          have j2 : (la : Int) - (n : Int) + (k : Int) < (la : Int) := by omega
          have j3 : ((la : Int) - (n : Int) + (k : Int)).toNat = k - (n - la) := by omega
          obtain ⟨bS, oS, rfl, hbS, kS0⟩ := rd_int hR1 (k - (n - la)) (by omega)
          have kS := (hB.cell (p := ⟨bS, oS + (k - (n - la)), none⟩) hbS).trans kS0
          have y1 := HGA.out (k - (n - la))
          have y2 := HGB.out k
          have HV := hid (HG.out k hlt)
          rw [if_pos hc, if_pos (by omega), Nat.sub_self, Nat.sub_zero] at HV
          generalize a.getD (k - (n - la)) 0 = y at *
          generalize b.getD k 0 = z at *
          have x1 : bits .xor .i64 0 (y : Int) = (y : Int) := by have := i64_xor 0 y (by omega) (by omega); rwa [Nat.zero_xor] at this
          have x2 : bits .xor .i64 0 (z : Int) = (z : Int) := by have := i64_xor 0 z (by omega) (by omega); rwa [Nat.zero_xor] at this
          have x3 : bits .xor .i64 (y : Int) (z : Int) = ((y ^^^ z : Nat) : Int) := i64_xor _ _ (by omega) (by omega)
          have k2 : (wr.setCell ⟨w.heap.size, k, none⟩ (.int .i64 (y : Int))).cell? ⟨bL, oL + k, none⟩ = some (.int .i64 (z : Int)) := by rw [World.cell?_setCell_other _ _ _ _ (fun e => by injection e with e1; omega)]; exact kL
          clear hO hB hbL hbS y1 y2 kL0 kS0
          go_wp2
          go_region
          all_goals (
            go_wp2
            go_region
            all_goals (
              go_wp2
              go_roundw
              case rel => exact ⟨k + 1, by omega, by go_num, by rw [← HS.out, HV.out, ← ints_set, ← List.set_set (.int .i64 (y : Int))]; exact Arr.set (Arr.set HO.out.drew k _).drew k _, Below.setCell (Below.setCell HB.out.drew (Nat.le_refl _) _).drew (Nat.le_refl _) _⟩
              case measure => simp [intOf]; omega))
        · have j1 : (la : Int) - (n : Int) + (k : Int) < 0 := by omega
          have y2 := HGB.out k
          have HV := hid (HG.out k hlt)
          rw [if_neg hc, if_pos (by omega), Nat.sub_self, Nat.sub_zero, Nat.zero_xor] at HV
          generalize b.getD k 0 = z at *
          have x2 : bits .xor .i64 0 (z : Int) = (z : Int) := by have := i64_xor 0 z (by omega) (by omega); rwa [Nat.zero_xor] at this
          clear hO hB hbL y2 hc kL0
          go_wp2
          go_region
          all_goals (
            go_wp2
            go_roundw
            case rel => exact ⟨k + 1, by omega, by go_num, by rw [← HS.out, HV.out, ← ints_set]; exact Arr.set HO.out.drew k _, Below.setCell HB.out.drew (Nat.le_refl _) _⟩
            case measure => simp [intOf]; omega)
      · obtain rfl : k = n := by omega
        have e1 : X.take k ++ List.replicate (k - k) 0 = X := by rw [Nat.sub_self, List.take_of_length_le (by rw [HX.out]; exact Nat.le_refl _)]; simp
        rw [e1] at hO
        have hR := Rd.of_arr hO
        rw [ints_length, HX.out] at hR
        have HR := hid hR
        have HB := hid hB
        have hlt' : ¬ (k : Int) < (k : Int) := by omega
        clear hO hB hR e1
        go_wp2_with fail
        refine (rsTidy _ k k X _ HR.out (by omega) (by omega) (Nat.le_refl _)).mono ?_
        rintro e w4 ⟨A4, c4, rfl, hc4, hR4, hA4, hB4⟩
        have HBS := hid HB.out.size
        go_wp2_with fail
        go_ret
        exact ⟨A4, c4, rfl, hc4, hR4, fun a e => Nat.le_trans HBS.out (hA4 a e), HB.out.trans (hB4.mono HBS.out)⟩
  · obtain rfl : n = la := by omega
    clear hmax
    go_wp2
    generalize w.alloc (.cells (madeCells #[.int .i64 0] n) 3) = w1 at *
    clear hmk
    go_loopw [7] (fun i wr => ∃ k : Nat, k ≤ n ∧ i = .int .i64 k ∧ Arr wr w.heap.size 3 (ints (X.take k ++ List.replicate (n - k) 0)) ∧ Below w.heap.size w wr) (fun i _ => n - (intOf i).toNat)
    case atStart => exact ⟨0, by omega, rfl, A3, B0⟩
    case round =>
      clear A3 B0
      obtain ⟨k, hk, rfl, hO, hB⟩ := hrel
      by_cases hlt : k < n
      · have hlt' : (k : Int) < (n : Int) := by omega
        have hk0 : (0 : Int) ≤ (k : Int) := by omega
        have kO : wr.cell? ⟨w.heap.size, k, none⟩ = some (.int .i64 0) := by
          have := hO.cell? k
          rw [this, ints, List.getElem?_map, List.getElem?_append_right (by rw [List.length_take, HX.out]; omega), List.length_take, HX.out, Nat.min_eq_left hk, Nat.sub_self, List.getElem?_replicate, if_pos (by omega)]
          rfl
        have fz := hO.frozen k
        obtain ⟨bL, oL, rfl, hbL, kL0⟩ := rd_int hR1 k hlt
        have kL := (hB.cell (p := ⟨bL, oL + k, none⟩) hbL).trans kL0
        have HS := hid (fill_set X n k HX.out hlt)
        have HO := hid hO
        have HB := hid hB
        by_cases hc : n - lb ≤ k
        · have j1 : (0 : Int) ≤ (lb : Int) - (n : Int) + (k : Int) := by omega
          have j2 : (lb : Int) - (n : Int) + (k : Int) < (lb : Int) := by omega
          have j3 : ((lb : Int) - (n : Int) + (k : Int)).toNat = k - (n - lb) := by omega
          obtain ⟨bS, oS, rfl, hbS, kS0⟩ := rd_int hR2 (k - (n - lb)) (by omega)
          have kS := (hB.cell (p := ⟨bS, oS + (k - (n - lb)), none⟩) hbS).trans kS0
          have y1 := HGB.out (k - (n - lb))
          have y2 := HGA.out k
          have HV := hid (HG.out k hlt)
          rw [if_pos (by omega : n - n ≤ k), if_pos hc, Nat.sub_self, Nat.sub_zero] at HV
          generalize b.getD (k - (n - lb)) 0 = y at *
          generalize a.getD k 0 = z at *
          have x1 : bits .xor .i64 0 (y : Int) = (y : Int) := by have := i64_xor 0 y (by omega) (by omega); rwa [Nat.zero_xor] at this
          have x2 : bits .xor .i64 0 (z : Int) = (z : Int) := by have := i64_xor 0 z (by omega) (by omega); rwa [Nat.zero_xor] at this
          have x3 : bits .xor .i64 (z : Int) (y : Int) = ((z ^^^ y : Nat) : Int) := i64_xor _ _ (by omega) (by omega)
          have k2 : (wr.setCell ⟨w.heap.size, k, none⟩ (.int .i64 (z : Int))).cell? ⟨bS, oS + (k - (n - lb)), none⟩ = some (.int .i64 (y : Int)) := by rw [World.cell?_setCell_other _ _ _ _ (fun e => by injection e with e1; omega)]; exact kS
          clear hO hB hbL hbS y1 y2 kL0 kS0
          go_wp2
          go_region
          all_goals (
            go_wp2
            go_region
            all_goals (
              go_wp2
              go_roundw
              case rel => exact ⟨k + 1, by omega, by go_num, by rw [← HS.out, HV.out, ← ints_set, ← List.set_set (.int .i64 (z : Int))]; exact Arr.set (Arr.set HO.out.drew k _).drew k _, Below.setCell (Below.setCell HB.out.drew (Nat.le_refl _) _).drew (Nat.le_refl _) _⟩
              case measure => simp [intOf]; omega))
        · have j1 : (lb : Int) - (n : Int) + (k : Int) < 0 := by omega
          have y2 := HGA.out k
          have HV := hid (HG.out k hlt)
          rw [if_pos (by omega : n - n ≤ k), if_neg hc, Nat.sub_self, Nat.sub_zero, Nat.xor_zero] at HV
          generalize a.getD k 0 = z at *
          have x2 : bits .xor .i64 0 (z : Int) = (z : Int) := by have := i64_xor 0 z (by omega) (by omega); rwa [Nat.zero_xor] at this
          clear hO hB hbL y2 hc kL0
          go_wp2
          go_region
          all_goals (
            go_wp2
            go_roundw
            case rel => exact ⟨k + 1, by omega, by go_num, by rw [← HS.out, HV.out, ← ints_set]; exact Arr.set HO.out.drew k _, Below.setCell HB.out.drew (Nat.le_refl _) _⟩
            case measure => simp [intOf]; omega)
      · obtain rfl : k = n := by omega
        have e1 : X.take k ++ List.replicate (k - k) 0 = X := by rw [Nat.sub_self, List.take_of_length_le (by rw [HX.out]; exact Nat.le_refl _)]; simp
        rw [e1] at hO
        have hR := Rd.of_arr hO
        rw [ints_length, HX.out] at hR
        have HR := hid hR
        have HB := hid hB
        have hlt' : ¬ (k : Int) < (k : Int) := by omega
        clear hO hB hR e1
        go_wp2_with fail
        refine (rsTidy _ k k X _ HR.out (by omega) (by omega) (Nat.le_refl _)).mono ?_
        rintro e w4 ⟨A4, c4, rfl, hc4, hR4, hA4, hB4⟩
        have HBS := hid HB.out.size
        go_wp2_with fail
        go_ret
        exact ⟨A4, c4, rfl, hc4, hR4, fun a e => Nat.le_trans HBS.out (hA4 a e), HB.out.trans (hB4.mono HBS.out)⟩
end
/- The reference's rest of a division, generator and code. -/
section
open Go.RowKit
set_option linter.unusedVariables false

/-- A rest on the way: it is worth what the whole is worth, wherever the divisor is worth nothing. -/
def RestOk (p m n : Nat) (a b out : List Nat) : Prop := Good m n out ∧ ∀ x, x < 2 ^ m → valAt p m x b = 0 → valAt p m x out = valAt p m x a

theorem rest_step {p m n : Nat} (h : IsGF p m) {a b out : List Nat} (hO : RestOk p m n a b out) (hGb : Good m n b) (hb0 : b.getD 0 0 ≠ 0) (ho0 : out.getD 0 0 ≠ 0) (hle : b.length ≤ out.length) :
    RestOk p m n a b (tidy (addL out (tidy (shiftl (tidy (scaleBy p m (gm p m (out.getD 0 0) (inv p m (b.getD 0 0))) b)) (out.length - b.length))))) ∧
    meas (tidy (addL out (tidy (shiftl (tidy (scaleBy p m (gm p m (out.getD 0 0) (inv p m (b.getD 0 0))) b)) (out.length - b.length))))) < meas out ∧
    Good m n (tidy (shiftl (tidy (scaleBy p m (gm p m (out.getD 0 0) (inv p m (b.getD 0 0))) b)) (out.length - b.length))) := by
  obtain ⟨⟨hT, hA, h1, hn⟩, hv⟩ := hO
  obtain ⟨hTb, hAb, hb1, hbn⟩ := hGb
  have hc : gm p m (out.getD 0 0) (inv p m (b.getD 0 0)) < 2 ^ m := gm_lt h (getD_lt h hA 0) _
  obtain ⟨t1, t2, t3⟩ := div_term h hb1 ho0 hb0 hle hA hAb
  have e : tidy (shiftl (tidy (scaleBy p m (gm p m (out.getD 0 0) (inv p m (b.getD 0 0))) b)) (out.length - b.length)) = shiftl (scaleBy p m (gm p m (out.getD 0 0) (inv p m (b.getD 0 0))) b) (out.length - b.length) := by
    rw [show shiftl (tidy (scaleBy p m (gm p m (out.getD 0 0) (inv p m (b.getD 0 0))) b)) (out.length - b.length) = tidy (scaleBy p m (gm p m (out.getD 0 0) (inv p m (b.getD 0 0))) b) ++ List.replicate (out.length - b.length) 0 from rfl, tidy_app _ _ (by rw [scale_len]; exact hb1)]
    exact t1
  rw [e]
  generalize gm p m (out.getD 0 0) (inv p m (b.getD 0 0)) = c at *
  have hTI : AllIn m (shiftl (scaleBy p m c b) (out.length - b.length)) := shiftl_in (scale_in h hAb) _
  obtain ⟨m1, m2⟩ := meas_lt ho0 t2 h1 t3
  refine ⟨⟨⟨tidy_tidy _, tidy_in h (addL_in h hA hTI), (tidy_cases _).1, by omega⟩, fun x hx hz => ?_⟩, m1, ⟨t1, hTI, by omega, by omega⟩⟩
  rw [val_tidy h hx _ (addL_in h hA hTI), val_addL h hx hA hTI, val_shiftl h hx (scale_in h hAb), val_scale h hx hc b hAb, hz, zero_gm, zero_gm, Nat.xor_zero]
  exact hv x hx hz

/-- A rest is handed back. -/
def RestOut (p m n : Nat) (a b : List Nat) (w : World) (e : Ending) (w' : World) : Prop := ∃ lo, RestOk p m n a b lo ∧ (lo.length < b.length ∨ lo = [0]) ∧ ListOut lo w e w'

section
variable {g b c : Nat} {o q : Nat} {c0 c1 c2 v u : Value} {w w1 : World}
theorem keep5_below (h : w.cell? ⟨g, 0, none⟩ = some c0 ∧ w.cell? ⟨g, 1, none⟩ = some c1 ∧ w.cell? ⟨g, 2, none⟩ = some c2 ∧ w.cell? ⟨b, o, none⟩ = some v ∧ g < w.heap.size ∧ b < w.heap.size ∧ Below c w1 w) {w2 : World} (hb : Below w.heap.size w w2) (hc : c ≤ w.heap.size) :
    w2.cell? ⟨g, 0, none⟩ = some c0 ∧ w2.cell? ⟨g, 1, none⟩ = some c1 ∧ w2.cell? ⟨g, 2, none⟩ = some c2 ∧ w2.cell? ⟨b, o, none⟩ = some v ∧ g < w2.heap.size ∧ b < w2.heap.size ∧ Below c w1 w2 := by
  obtain ⟨h0, h1, h2, h3, h4, h5, h6⟩ := h
  exact ⟨(hb.cell (p := ⟨g, 0, none⟩) h4).trans h0, (hb.cell (p := ⟨g, 1, none⟩) h4).trans h1, (hb.cell (p := ⟨g, 2, none⟩) h4).trans h2, (hb.cell (p := ⟨b, o, none⟩) h5).trans h3, Nat.lt_of_lt_of_le h4 hb.size, Nat.lt_of_lt_of_le h5 hb.size, h6.trans (hb.mono hc)⟩
end

attribute [local go_sem ↓] Go.wp_at_zero Go.wp_at_succ
set_option maxRecDepth 100000 in
set_option maxHeartbeats 4000000 in
theorem rsRest (p m N base : Nat) (A1 A2 : Option Addr) (c1 c2 : Nat) (a b : List Nat) (w : World) (h : IsGF p m) (hN : Hid (N = 2 ^ m)) (hR1 : Rd w A1 a.length (ints a)) (hR2 : Rd w A2 b.length (ints b)) (hGa : Good m 4000 a) (hGb : Good m 4000 b) (hb0 : b.getD 0 0 ≠ 0) (hca : a.length ≤ c1) (hcb : b.length ≤ c2) :
    Calls Tryz.prog 49 #[fieldVal p N base, .slice A1 a.length c1, .slice A2 b.length c2] w (RestOut p m 4000 a b w) := by
  have hN1 : N ≤ 4096 := by rw [hN.out]; exact Nat.pow_le_pow_right (n := 2) (by omega) h.small
  obtain ⟨hTa, hAa, ha1, ha⟩ := hGa
  obtain ⟨hTb, hAb, hb1, hb⟩ := hGb
  have A0 := Arr.of_new w 72 #[.int .i64 p, .int .i64 N, .int .i64 base]
  have B0 : Below w.heap.size w (w.alloc (.cells #[.int .i64 p, .int .i64 N, .int .i64 base] 72)) := (Below.refl _ _).alloc (Nat.le_refl _) _
  have H := hid h
  have HGA := hid (show Good m 4000 a from ⟨hTa, hAa, ha1, ha⟩)
  have HGB := hid (show Good m 4000 b from ⟨hTb, hAb, hb1, hb⟩)
  have HB0 := hid hb0
  have rt1 := fun W hr => rsTidy A1 a.length c1 a W hr ha1 (by omega) hca
  have rt2 := fun W hr => rsTidy A2 b.length c2 b W hr hb1 (by omega) hcb
  rw [hTa] at rt1
  rw [hTb] at rt2
  have RT1 := hid rt1
  have RT2 := hid rt2
  have HR1 := hid (hR1.below B0)
  have HR2 := hid (hR2.below B0)
  have HA0 := hid A0
  have HBW := hid B0
  clear rt1 rt2 hR1 hR2 A0 B0 hTa hAa hTb hAb h hca hcb hb0
  unfold fieldVal
  go_enter Tryz.func49, Tryz.ntmps49
  go_wp2_with fail
  refine (RT1.out _ HR1.out).mono ?_
  rintro e w1 ⟨Ao, co, rfl, hco, hRo, hAo, hb1'⟩
  have HRo := hid hRo
  have HAo := hid (show ∀ a, Ao = some a → w.heap.size ≤ a.block from fun a e => Nat.le_trans HBW.out.size (hAo a e))
  have HR21 := hid (HR2.out.below hb1')
  have HA1 := hid (HA0.out.below hb1' HA0.out.lt)
  have HB1 := hid (HBW.out.trans (hb1'.mono HBW.out.size))
  clear hRo hAo hb1' HR2 HA0 HBW RT1 HR1
  go_wp2_with fail
  refine (RT2.out _ HR21.out).mono ?_
  rintro e w2 ⟨Ab, cb, rfl, hcb2, hRb, _, hb2'⟩
  have HRo2 := hid (HRo.out.below hb2')
  have HRb := hid hRb
  have HA2 := hid (HA1.out.below hb2' HA1.out.lt)
  have HB2 := hid (HB1.out.trans (hb2'.mono HB1.out.size))
  clear hRb hb2' HRo HA1 HB1 HR21 RT2
  obtain ⟨bb, ob, hAbe, hbl, kb⟩ := rd_int HRb.out 0 (by omega)
  subst hAbe
  rw [Nat.add_zero] at kb
  have hbl0 : (0 : Int) < (b.length : Int) := by omega
  have hbl1 : 0 < b.length := by omega
  have hB0lt := getD_lt H.out HGB.out.2.1 0
  have ri := fun W => rsInverse p m N base (b.getD 0 0) W H.out hN (Nat.pos_of_ne_zero HB0.out) (by rw [hN.out]; exact hB0lt)
  have hivl := inv_lt H.out (b.getD 0 0)
  rw [← hN.out] at hivl hB0lt
  have HST := hid (fun out h1 h2 h3 => rest_step (n := 4000) H.out (a := a) (b := b) (out := out) h1 HGB.out HB0.out h2 h3)
  generalize b.getD 0 0 = B0 at *
  have d0 := HA2.out.cell? 0
  have d1 := HA2.out.cell? 1
  have d2 := HA2.out.cell? 2
  have hFl := HA2.out.lt
  try simp only at d0 d1 d2
  have b0 := Below.refl w2.heap.size w2
  unfold fieldVal at *
  go_wp2_with fail
  go_region_held3 (fun w' => w'.cell? ⟨w.heap.size, 0, none⟩ = some (.int .i64 p) ∧ w'.cell? ⟨w.heap.size, 1, none⟩ = some (.int .i64 N) ∧ w'.cell? ⟨w.heap.size, 2, none⟩ = some (.int .i64 base) ∧ w'.cell? ⟨bb, ob, none⟩ = some (.int .i64 B0) ∧ w.heap.size < w'.heap.size ∧ bb < w'.heap.size ∧ Below w2.heap.size w2 w')
    (first | exact ⟨d0, d1, d2, kb, hFl, hbl, b0.drew⟩ | exact keep5_below (by assumption) hb5 (Nat.le_refl _))
    (first | (go_at_call 77; ((with_reducible refine (ri _).mono ?_); rintro e w5 ⟨rfl, hb5⟩)))
  have S5 : w5.cell? ⟨w.heap.size, 0, none⟩ = some (.int .i64 p) ∧ w5.cell? ⟨w.heap.size, 1, none⟩ = some (.int .i64 N) ∧ w5.cell? ⟨w.heap.size, 2, none⟩ = some (.int .i64 base) ∧ w5.cell? ⟨bb, ob, none⟩ = some (.int .i64 B0) ∧ w.heap.size < w5.heap.size ∧ bb < w5.heap.size ∧ Below w2.heap.size w2 w5 := by assumption
  have hb25 := S5.2.2.2.2.2.2
  have HRo5 := hid (HRo2.out.below hb25)
  have HRb5 := hid (HRb.out.below hb25)
  have HA5 := hid (HA2.out.below hb25 hFl)
  have HB5 := hid (HB2.out.trans (hb25.mono HB2.out.size))
  clear S5 hb25 hb5 d0 d1 d2 kb hFl hbl b0 HA2 HRo2 HRb HB2 ri
  generalize inv p m B0 = iv at *
  go_wp2_with fail
  have hOk0 := hid (show RestOk p m 4000 a b a from ⟨HGA.out, fun _ _ _ => rfl⟩)
  go_loopg [7] (meas a) (fun gk ov wr => ∃ (Ax : Option Addr) (cx : Nat) (lo : List Nat), ov = .slice Ax lo.length cx ∧ lo.length ≤ cx ∧ RestOk p m 4000 a b lo ∧ Hid (meas lo ≤ gk) ∧ Rd wr Ax lo.length (ints lo) ∧ Hid (∀ a, Ax = some a → w.heap.size ≤ a.block) ∧ Rd wr (some ⟨bb, ob, none⟩) b.length (ints b) ∧ Arr wr w.heap.size 72 [.int .i64 p, .int .i64 N, .int .i64 base] ∧ Below w.heap.size w wr)
  case atStart => exact ⟨Ao, co, a, rfl, hco, hOk0.out, hid (Nat.le_refl _), HRo5.out, HAo, HRb5.out, HA5.out, HB5.out⟩
  case round =>
    clear HRo5 HAo HRb5 HA5 HB5 hOk0
    obtain ⟨Ax, cx, lo, rfl, hcx, hOk, HM, hRx, HAx, hRb, hF, hB⟩ := hrel
    obtain ⟨⟨hT, hI, h1, hn⟩, hV⟩ := hOk
    have HOK := hid (show RestOk p m 4000 a b lo from ⟨⟨hT, hI, h1, hn⟩, hV⟩)
    have HRX := hid hRx
    have HRB := hid hRb
    have HF := hid hF
    have HB := hid hB
    by_cases hlt : lo.length < b.length
    · have hlt' : ¬ (b.length : Int) ≤ (lo.length : Int) := by omega
      clear hT hI hV hRx hRb hF hB
      go_wp2_with fail
      go_ret
      exact ⟨lo, HOK.out, .inl hlt, Ax, cx, rfl, hcx, HRX.out, HAx.out, HB.out⟩
    · have hlt' : (b.length : Int) ≤ (lo.length : Int) := by omega
      by_cases hz : lo.getD 0 0 = 0
      · have hlo := tidy_zero hT h1 hz
        subst hlo
        have zt := rsZeroT Ax cx wr hRx
        clear hT hI hV hRx hRb hF hB
        go_wp2_with fail
        refine zt.mono ?_
        rintro e w6 ⟨rfl, rfl⟩
        clear zt
        go_wp2_with fail
        go_ret
        exact ⟨[0], HOK.out, .inr rfl, Ax, cx, rfl, hcx, HRX.out, HAx.out, HB.out⟩
      · have zf := rsZeroF Ax lo.length cx lo wr hRx h1 (by omega) hz
        obtain ⟨bx, ox, hAxe, hxl, kx⟩ := rd_int hRx 0 (by omega)
        subst hAxe
        rw [Nat.add_zero] at kx
        have hl0 := getD_lt H.out hI 0
        have HST2 := hid (HST.out lo HOK.out hz (by omega))
        have ct := fun W => rsTimes p m N base (lo.getD 0 0) iv W H.out hN (by rw [hN.out]; exact hl0) hivl
        have hcl := gm_lt H.out hl0 iv
        have d0 := hF.cell? 0
        have d1 := hF.cell? 1
        have d2 := hF.cell? 2
        have hFl := hF.lt
        try simp only at d0 d1 d2
        have b0 := Below.refl wr.heap.size wr
        have hxl0 : 0 < lo.length := by omega
        generalize gm p m (lo.getD 0 0) iv = cc at *
        generalize lo.getD 0 0 = x0 at *
        clear hT hI hV hRx hRb hF hB hz
        unfold fieldVal at *
        go_wp2_with fail
        refine zf.mono ?_
        rintro e w6 ⟨rfl, rfl⟩
        clear zf
        go_wp2_with fail
        go_region_held3 (fun w' => w'.cell? ⟨w.heap.size, 0, none⟩ = some (.int .i64 p) ∧ w'.cell? ⟨w.heap.size, 1, none⟩ = some (.int .i64 N) ∧ w'.cell? ⟨w.heap.size, 2, none⟩ = some (.int .i64 base) ∧ w'.cell? ⟨bx, ox, none⟩ = some (.int .i64 x0) ∧ w.heap.size < w'.heap.size ∧ bx < w'.heap.size ∧ Below wr.heap.size wr w')
          (first | exact ⟨d0, d1, d2, kx, hFl, hxl, b0.drew⟩ | exact keep5_below (by assumption) hb5 (Nat.le_refl _))
          (first | (go_at_call 79; ((with_reducible refine (ct _).mono ?_); rintro e w5 ⟨rfl, hb5⟩)))
        have S5 : w5.cell? ⟨w.heap.size, 0, none⟩ = some (.int .i64 p) ∧ w5.cell? ⟨w.heap.size, 1, none⟩ = some (.int .i64 N) ∧ w5.cell? ⟨w.heap.size, 2, none⟩ = some (.int .i64 base) ∧ w5.cell? ⟨bx, ox, none⟩ = some (.int .i64 x0) ∧ w.heap.size < w5.heap.size ∧ bx < w5.heap.size ∧ Below wr.heap.size wr w5 := by assumption
        obtain ⟨e0, e1, e2, _, _, _, hb25⟩ := S5
        have HX5 := hid (HRX.out.below hb25)
        have HB5 := hid (HRB.out.below hb25)
        have HF5 := hid (HF.out.below hb25 hFl)
        have HW5 := hid (HB.out.trans (hb25.mono HB.out.size))
        clear hb25 hb5 d0 d1 d2 kx hFl hxl b0 HRX HRB HF HB ct
        obtain ⟨dd, hdd⟩ : ∃ dd, dd = lo.length - b.length := ⟨_, rfl⟩
        have hdi : (lo.length : Int) - (b.length : Int) = (dd : Int) := by omega
        have HDI := hid hdi
        have hddl : dd ≤ 4000 := by omega
        rw [← hdd] at HST2
        have rp : ∀ (W : World) (A2 : Option Addr), Rd W (some ⟨bb, ob, none⟩) b.length (ints b) → Rd W A2 1 (ints [cc]) → Calls Tryz.prog 81 #[fieldVal p N base, .slice (some ⟨bb, ob, none⟩) b.length cb, .slice A2 1 1] W (ListOut (tidy (scaleBy p m cc b)) W) := fun W A2 h1 h2 => by
          rw [← prodL_one]
          exact rsProduct p m N base (some ⟨bb, ob, none⟩) A2 cb 1 b [cc] W H.out hN h1 h2 hb1 (by simp) (by omega) (by simp) HGB.out.2.1 (fun z hz => by rw [List.mem_singleton.1 hz]; exact hcl)
        have s1 : 1 ≤ (tidy (scaleBy p m cc b)).length := (tidy_cases _).1
        have s2 : (tidy (scaleBy p m cc b)).length ≤ 4000 := tidy_len_le (by rw [scale_len]; exact hb1) (by rw [scale_len]; exact hb)
        have hw6 := Rd.one w5 3 (.int .i64 cc)
        have RPP := hid (rp _ _ (HB5.out.alloc (.cells #[.int .i64 cc] 3)) hw6)
        generalize tidy (scaleBy p m cc b) = S at *
        have sh : ∀ (W : World) (As : Option Addr) (cs : Nat), Rd W As S.length (ints S) → Calls Tryz.prog 50 #[.slice As S.length cs, .int .i64 ((lo.length : Int) - (b.length : Int))] W (ListOut (tidy (shiftl S dd)) W) := fun W As cs h1 => by
          rw [HDI.out]
          exact rsShifted As S.length cs dd S W h1 s1 (by omega) (by omega)
        have SH := hid sh
        generalize tidy (shiftl S dd) = T at *
        have HGT := hid HST2.out.2.2
        have pl : ∀ (W : World) (At : Option Addr) (ct : Nat), Rd W (some ⟨bx, ox, none⟩) lo.length (ints lo) → Rd W At T.length (ints T) → Calls Tryz.prog 80 #[.slice (some ⟨bx, ox, none⟩) lo.length cx, .slice At T.length ct] W (ListOut (tidy (addL lo T)) W) := fun W At ct h1' h2 =>
          rsPlus (some ⟨bx, ox, none⟩) At lo.length T.length cx ct p m lo T W H.out h1' h2 h1 HGT.out.2.2.1 (by omega) (by have := HGT.out.2.2.2; omega) HOK.out.1.2.1 HGT.out.2.1
        have PL := hid pl
        have HOK2 := hid HST2.out.1
        have HM2 := hid HST2.out.2.1
        generalize tidy (addL lo T) = lo2 at *
        have BA := hid (show Below w5.heap.size w5 (w5.alloc (.cells #[.int .i64 cc] 3)) from (Below.refl _ _).alloc (Nat.le_refl _) _)
        clear rp sh pl hdi HST2 hdd hw6
        unfold fieldVal at *
        go_wp2_with fail
        refine RPP.out.mono ?_
        rintro e w6 ⟨As, cs, rfl, hcs, hRs, _, hb6⟩
        have HB56 := hid (BA.out.trans (hb6.mono BA.out.size))
        have HRS := hid hRs
        clear hRs hb6 RPP e0 e1 e2
        go_wp2_with fail
        refine (SH.out _ _ _ HRS.out).mono ?_
        rintro e w7 ⟨At, ct, rfl, hct, hRt, _, hb7⟩
        have HB57 := hid (HB56.out.trans (hb7.mono HB56.out.size))
        have HRT := hid hRt
        clear hRt hb7 HRS HB56
        go_wp2_with fail
        refine (PL.out _ _ _ (HX5.out.below HB57.out) HRT.out).mono ?_
        rintro e w8 ⟨A8, c8, rfl, hc8, hR8, hA8, hb8⟩
        have HB58 := hid (HB57.out.trans (hb8.mono HB57.out.size))
        have HR8 := hid hR8
        have HA8 := hid (show ∀ a, A8 = some a → w.heap.size ≤ a.block from fun a e => Nat.le_trans HW5.out.size (Nat.le_trans HB57.out.size (hA8 a e)))
        have HFl := hid (show w.heap.size < w5.heap.size from HF5.out.lt)
        clear hR8 hA8 hb8 HRT HB57
        go_wp2_with fail
        go_roundg (meas lo2)
        case measure => have := HM2.out; have := HM.out; omega
        case rel => exact ⟨A8, c8, lo2, rfl, hc8, HOK2.out, hid (Nat.le_refl _), HR8.out, HA8, HB5.out.below HB58.out, HF5.out.below HB58.out HFl.out, HW5.out.trans (HB58.out.mono HW5.out.size)⟩
end
end Go.Proofs.YtliephokeafllaaGreatDoor.Rs
