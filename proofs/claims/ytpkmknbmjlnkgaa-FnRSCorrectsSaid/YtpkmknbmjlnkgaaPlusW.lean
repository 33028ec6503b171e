/- The reference's sum of polynomials. -/
import Derived.Test.YtpkmknbmjlnkgaaSpecW
import Derived.Deep.DrawnRows
namespace Go.Proofs.Ytpkmknbmjlnkgaa
open Go.RowKit
set_option linter.unusedVariables false

theorem addL_get (a b : List Nat) (n i : Nat) (hn : n = max a.length b.length) (hi : i < n) :
    (addL a b).getD i 0 = (if n - a.length ≤ i then a.getD (i - (n - a.length)) 0 else 0) ^^^ (if n - b.length ≤ i then b.getD (i - (n - b.length)) 0 else 0) := by
  unfold addL
  split
  · rename_i h
    have e : n = a.length := by omega
    rw [e, Nat.sub_self, if_pos (Nat.zero_le _), Nat.sub_zero]
    by_cases h2 : a.length - b.length ≤ i
    · rw [if_pos h2, addSL_high (by omega) i h2 (by omega), Nat.xor_comm]
    · rw [if_neg h2, addSL_low (by omega) i (by omega), Nat.xor_zero]
  · rename_i h
    have e : n = b.length := by omega
    rw [e, Nat.sub_self, if_pos (Nat.zero_le i), Nat.sub_zero]
    by_cases h2 : b.length - a.length ≤ i
    · rw [if_pos h2, addSL_high (by omega) i h2 (by omega)]
    · rw [if_neg h2, addSL_low (by omega) i (by omega), Nat.zero_xor]

attribute [local go_sem ↓] Go.wp_at_zero Go.wp_at_succ
set_option maxRecDepth 100000 in
set_option maxHeartbeats 4000000 in
theorem rsPlus (A1 A2 : Option Addr) (la lb ca cb : Nat) (p m : Nat) (a b : List Nat) (w : World) (h : IsGF p m) (hR1 : Rd w A1 la (ints a)) (hR2 : Rd w A2 lb (ints b)) (ha1 : 1 ≤ la) (hb1 : 1 ≤ lb) (ha : la ≤ 10000) (hb : lb ≤ 10000) (hA : AllIn m a) (hB : AllIn m b) :
    Calls Try.prog 57 #[.slice A1 la ca, .slice A2 lb cb] w (ListOut (tidy (addL a b)) w) := by
  obtain ⟨i0, hi, hz0, hz1, hz2⟩ := info_parts info3
  have hN1 : 2 ^ m ≤ 4096 := Nat.pow_le_pow_right (n := 2) (by omega) h.small
  have hla : a.length = la := by have := hR1.1; simpa [ints] using this
  have hlb : b.length = lb := by have := hR2.1; simpa [ints] using this
  obtain ⟨n, hn⟩ : ∃ n, n = max la lb := ⟨_, rfl⟩
  have HX := hid (show (addL a b).length = n by rw [addL_len, hla, hlb, hn])
  have HG := hid (fun i hi => addL_get a b n i (by rw [hla, hlb, hn]) hi)
  have HGA := hid (getD_lt h hA)
  have HGB := hid (getD_lt h hB)
  rw [hla, hlb] at HG
  have hn1 : la ≤ n := by omega
  have hn2 : lb ≤ n := by omega
  have hn3 : n ≤ 10000 := by omega
  have hn4 : n = la ∨ n = lb := by omega
  have hmk := fun W => run_make (P := Try.prog) W 30 3 i0 (.int .i64 0) Try.underlying30 hi hz0 .i64 .i64 n n (by omega) (by omega) (by rw [hz2]; omega) (by omega)
  simp only [hz1] at hmk
  have A3 := Arr.made w 3 (.int .i64 0) n
  have e0 : List.replicate n (Value.int .i64 0) = ints ((addL a b).take 0 ++ List.replicate (n - 0) 0) := by simp [ints]
  rw [e0] at A3
  have B0 : Below w.heap.size w (w.alloc (.cells (madeCells #[.int .i64 0] n) 3)) := (Below.refl _ _).alloc (Nat.le_refl _) _
  have hmax : (if (lb : Int) > (la : Int) then (lb : Int) else (la : Int)) = (n : Int) := by split <;> omega
  generalize addL a b = X at *
  clear hla hlb hn hA hB e0 hi hz0 hz1 hz2
  go_enter Try.func57, Try.ntmps57
  by_cases hgt : (la : Int) < (lb : Int)
  · obtain rfl : n = lb := by omega
    clear hmax
    go_wp2
    generalize w.alloc (.cells (madeCells #[.int .i64 0] n) 3) = w1 at *
    clear hmk
    go_loopw [7] (fun i wr => ∃ k : Nat, k ≤ n ∧ i = .int .i64 k ∧ Arr wr w.heap.size 3 (ints (X.take k ++ List.replicate (n - k) 0)) ∧ Below w.heap.size w wr) (fun i _ => n - (intOf i).toNat)
    case atStart => exact ⟨0, by omega, rfl, A3, B0⟩
    case round =>
      clear A3 B0
      obtain ⟨k, hk, rfl, hO, hB⟩ := hrel
      by_cases hlt : k < n
      · have hlt' : (k : Int) < (n : Int) := by omega
        have hk0 : (0 : Int) ≤ (k : Int) := by omega
        have kO : wr.cell? ⟨w.heap.size, k, none⟩ = some (.int .i64 0) := by
          have := hO.cell? k
          rw [this, ints, List.getElem?_map, List.getElem?_append_right (by rw [List.length_take, HX.out]; omega), List.length_take, HX.out, Nat.min_eq_left hk, Nat.sub_self, List.getElem?_replicate, if_pos (by omega)]
          rfl
        have fz := hO.frozen k
        obtain ⟨bL, oL, rfl, hbL, kL0⟩ := rd_int hR2 k hlt
        have kL := (hB.cell (p := ⟨bL, oL + k, none⟩) hbL).trans kL0
        have HS := hid (fill_set X n k HX.out hlt)
        have HO := hid hO
        have HB := hid hB
        by_cases hc : n - la ≤ k
        · have j1 : (0 : Int) ≤ (la : Int) - (n : Int) + (k : Int) := by omega
          have j2 : (la : Int) - (n : Int) + (k : Int) < (la : Int) := by omega
          have j3 : ((la : Int) - (n : Int) + (k : Int)).toNat = k - (n - la) := by omega
          obtain ⟨bS, oS, rfl, hbS, kS0⟩ := rd_int hR1 (k - (n - la)) (by omega)
          have kS := (hB.cell (p := ⟨bS, oS + (k - (n - la)), none⟩) hbS).trans kS0
          have y1 := HGA.out (k - (n - la))
          have y2 := HGB.out k
          have HV := hid (HG.out k hlt)
          rw [if_pos hc, if_pos (by omega), Nat.sub_self, Nat.sub_zero] at HV
          generalize a.getD (k - (n - la)) 0 = y at *
          generalize b.getD k 0 = z at *
          have x1 : bits .xor .i64 0 (y : Int) = (y : Int) := by have := i64_xor 0 y (by omega) (by omega); rwa [Nat.zero_xor] at this
          have x2 : bits .xor .i64 0 (z : Int) = (z : Int) := by have := i64_xor 0 z (by omega) (by omega); rwa [Nat.zero_xor] at this
          have x3 : bits .xor .i64 (y : Int) (z : Int) = ((y ^^^ z : Nat) : Int) := i64_xor _ _ (by omega) (by omega)
          have k2 : (wr.setCell ⟨w.heap.size, k, none⟩ (.int .i64 (y : Int))).cell? ⟨bL, oL + k, none⟩ = some (.int .i64 (z : Int)) := by rw [World.cell?_setCell_other _ _ _ _ (fun e => by injection e with e1; omega)]; exact kL
          clear hO hB hbL hbS y1 y2 kL0 kS0
          go_wp2
          go_region
          all_goals (
            go_wp2
            go_region
            all_goals (
              go_wp2
              go_roundw
              case rel => exact ⟨k + 1, by omega, by go_num, by rw [← HS.out, HV.out, ← ints_set, ← List.set_set (.int .i64 (y : Int))]; exact Arr.set (Arr.set HO.out.drew k _).drew k _, Below.setCell (Below.setCell HB.out.drew (Nat.le_refl _) _).drew (Nat.le_refl _) _⟩
              case measure => simp [intOf]; omega))
        · have j1 : (la : Int) - (n : Int) + (k : Int) < 0 := by omega
          have y2 := HGB.out k
          have HV := hid (HG.out k hlt)
          rw [if_neg hc, if_pos (by omega), Nat.sub_self, Nat.sub_zero, Nat.zero_xor] at HV
          generalize b.getD k 0 = z at *
          have x2 : bits .xor .i64 0 (z : Int) = (z : Int) := by have := i64_xor 0 z (by omega) (by omega); rwa [Nat.zero_xor] at this
          clear hO hB hbL y2 hc kL0
          go_wp2
          go_region
          all_goals (
            go_wp2
            go_roundw
            case rel => exact ⟨k + 1, by omega, by go_num, by rw [← HS.out, HV.out, ← ints_set]; exact Arr.set HO.out.drew k _, Below.setCell HB.out.drew (Nat.le_refl _) _⟩
            case measure => simp [intOf]; omega)
      · obtain rfl : k = n := by omega
        have e1 : X.take k ++ List.replicate (k - k) 0 = X := by rw [Nat.sub_self, List.take_of_length_le (by rw [HX.out]; exact Nat.le_refl _)]; simp
        rw [e1] at hO
        have hR := Rd.of_arr hO
        rw [ints_length, HX.out] at hR
        have HR := hid hR
        have HB := hid hB
        have hlt' : ¬ (k : Int) < (k : Int) := by omega
        clear hO hB hR e1
        go_wp2_with fail
        refine (rsTidy _ k k X _ HR.out (by omega) (by omega) (Nat.le_refl _)).mono ?_
        rintro e w4 ⟨A4, c4, rfl, hc4, hR4, hA4, hB4⟩
        have HBS := hid HB.out.size
        go_wp2_with fail
        go_ret
        exact ⟨A4, c4, rfl, hc4, hR4, fun a e => Nat.le_trans HBS.out (hA4 a e), HB.out.trans (hB4.mono HBS.out)⟩
  · obtain rfl : n = la := by omega
    clear hmax
    go_wp2
    generalize w.alloc (.cells (madeCells #[.int .i64 0] n) 3) = w1 at *
    clear hmk
    go_loopw [7] (fun i wr => ∃ k : Nat, k ≤ n ∧ i = .int .i64 k ∧ Arr wr w.heap.size 3 (ints (X.take k ++ List.replicate (n - k) 0)) ∧ Below w.heap.size w wr) (fun i _ => n - (intOf i).toNat)
    case atStart => exact ⟨0, by omega, rfl, A3, B0⟩
    case round =>
      clear A3 B0
      obtain ⟨k, hk, rfl, hO, hB⟩ := hrel
      by_cases hlt : k < n
      · have hlt' : (k : Int) < (n : Int) := by omega
        have hk0 : (0 : Int) ≤ (k : Int) := by omega
        have kO : wr.cell? ⟨w.heap.size, k, none⟩ = some (.int .i64 0) := by
          have := hO.cell? k
          rw [this, ints, List.getElem?_map, List.getElem?_append_right (by rw [List.length_take, HX.out]; omega), List.length_take, HX.out, Nat.min_eq_left hk, Nat.sub_self, List.getElem?_replicate, if_pos (by omega)]
          rfl
        have fz := hO.frozen k
        obtain ⟨bL, oL, rfl, hbL, kL0⟩ := rd_int hR1 k hlt
        have kL := (hB.cell (p := ⟨bL, oL + k, none⟩) hbL).trans kL0
        have HS := hid (fill_set X n k HX.out hlt)
        have HO := hid hO
        have HB := hid hB
        by_cases hc : n - lb ≤ k
        · have j1 : (0 : Int) ≤ (lb : Int) - (n : Int) + (k : Int) := by omega
          have j2 : (lb : Int) - (n : Int) + (k : Int) < (lb : Int) := by omega
          have j3 : ((lb : Int) - (n : Int) + (k : Int)).toNat = k - (n - lb) := by omega
          obtain ⟨bS, oS, rfl, hbS, kS0⟩ := rd_int hR2 (k - (n - lb)) (by omega)
          have kS := (hB.cell (p := ⟨bS, oS + (k - (n - lb)), none⟩) hbS).trans kS0
          have y1 := HGB.out (k - (n - lb))
          have y2 := HGA.out k
          have HV := hid (HG.out k hlt)
          rw [if_pos (by omega : n - n ≤ k), if_pos hc, Nat.sub_self, Nat.sub_zero] at HV
          generalize b.getD (k - (n - lb)) 0 = y at *
          generalize a.getD k 0 = z at *
          have x1 : bits .xor .i64 0 (y : Int) = (y : Int) := by have := i64_xor 0 y (by omega) (by omega); rwa [Nat.zero_xor] at this
          have x2 : bits .xor .i64 0 (z : Int) = (z : Int) := by have := i64_xor 0 z (by omega) (by omega); rwa [Nat.zero_xor] at this
          have x3 : bits .xor .i64 (z : Int) (y : Int) = ((z ^^^ y : Nat) : Int) := i64_xor _ _ (by omega) (by omega)
          have k2 : (wr.setCell ⟨w.heap.size, k, none⟩ (.int .i64 (z : Int))).cell? ⟨bS, oS + (k - (n - lb)), none⟩ = some (.int .i64 (y : Int)) := by rw [World.cell?_setCell_other _ _ _ _ (fun e => by injection e with e1; omega)]; exact kS
          clear hO hB hbL hbS y1 y2 kL0 kS0
          go_wp2
          go_region
          all_goals (
            go_wp2
            go_region
            all_goals (
              go_wp2
              go_roundw
              case rel => exact ⟨k + 1, by omega, by go_num, by rw [← HS.out, HV.out, ← ints_set, ← List.set_set (.int .i64 (z : Int))]; exact Arr.set (Arr.set HO.out.drew k _).drew k _, Below.setCell (Below.setCell HB.out.drew (Nat.le_refl _) _).drew (Nat.le_refl _) _⟩
              case measure => simp [intOf]; omega))
        · have j1 : (lb : Int) - (n : Int) + (k : Int) < 0 := by omega
          have y2 := HGA.out k
          have HV := hid (HG.out k hlt)
          rw [if_pos (by omega : n - n ≤ k), if_neg hc, Nat.sub_self, Nat.sub_zero, Nat.xor_zero] at HV
          generalize a.getD k 0 = z at *
          have x2 : bits .xor .i64 0 (z : Int) = (z : Int) := by have := i64_xor 0 z (by omega) (by omega); rwa [Nat.zero_xor] at this
          clear hO hB hbL y2 hc kL0
          go_wp2
          go_region
          all_goals (
            go_wp2
            go_roundw
            case rel => exact ⟨k + 1, by omega, by go_num, by rw [← HS.out, HV.out, ← ints_set]; exact Arr.set HO.out.drew k _, Below.setCell HB.out.drew (Nat.le_refl _) _⟩
            case measure => simp [intOf]; omega)
      · obtain rfl : k = n := by omega
        have e1 : X.take k ++ List.replicate (k - k) 0 = X := by rw [Nat.sub_self, List.take_of_length_le (by rw [HX.out]; exact Nat.le_refl _)]; simp
        rw [e1] at hO
        have hR := Rd.of_arr hO
        rw [ints_length, HX.out] at hR
        have HR := hid hR
        have HB := hid hB
        have hlt' : ¬ (k : Int) < (k : Int) := by omega
        clear hO hB hR e1
        go_wp2_with fail
        refine (rsTidy _ k k X _ HR.out (by omega) (by omega) (Nat.le_refl _)).mono ?_
        rintro e w4 ⟨A4, c4, rfl, hc4, hR4, hA4, hB4⟩
        have HBS := hid HB.out.size
        go_wp2_with fail
        go_ret
        exact ⟨A4, c4, rfl, hc4, hR4, fun a e => Nat.le_trans HBS.out (hA4 a e), HB.out.trans (hB4.mono HBS.out)⟩
end Go.Proofs.Ytpkmknbmjlnkgaa
