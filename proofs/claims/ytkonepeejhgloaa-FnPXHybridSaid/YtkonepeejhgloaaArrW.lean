/- gozxing.BitArray: a new one, a bit that is set, read; impl.array, impl.bools. -/
import Derived.Test.YtkonepeejhgloaaRowsW
import Derived.Test.YtkonepeejhgloaaRevW
namespace Go.Proofs.Ytkonepeejhgloaa
open Go.RowKit
set_option linter.unusedVariables false

/-- An array of n bits in nw words. -/
structure IsBA (w : World) (q g n nw : Nat) (ws : List Nat) (B : Nat → Bool) : Prop where
  st : Arr w q 86 [.slice (some ⟨g, 0, none⟩) nw nw, .int .i64 n]
  bits : Arr w g 87 (u32s ws)
  sh : Shows nw 1 ws (fun x _ => B x)
  ne : g ≠ q
  wr : n ≤ 32 * nw
  rw_ : 32 * nw ≤ n + 31
section
variable {w w' : World} {q g n nw : Nat} {ws : List Nat} {B : Nat → Bool}
theorem IsBA.below {C : Nat} (h : IsBA w q g n nw ws B) (hb : Below C w w') (hq : q < C) (hg : g < C) : IsBA w' q g n nw ws B :=
  ⟨h.st.below hb hq, h.bits.below hb hg, h.sh, h.ne, h.wr, h.rw_⟩
theorem IsBA.drewN (h : IsBA w q g n nw ws B) (k : Nat) : IsBA (w.drewN k) q g n nw ws B := ⟨h.st, h.bits, h.sh, h.ne, h.wr, h.rw_⟩
theorem IsBA.put (h : IsBA w q g n nw ws B) {k v : Nat} {B' : Nat → Bool} (hs : Shows nw 1 (ws.set k v) (fun x _ => B' x)) : IsBA (w.setCell ⟨g, k, none⟩ (.int .u32 v)) q g n nw (ws.set k v) B' :=
  ⟨h.st.far (by have := h.ne; simpa using Ne.symm this) _, by rw [← u32s_set]; exact h.bits.set k _, hs, h.ne, h.wr, h.rw_⟩
theorem IsBA.congr (h : IsBA w q g n nw ws B) {C : Nat → Bool} (e : ∀ x, x < 32 * nw → B x = C x) : IsBA w q g n nw ws C :=
  ⟨h.st, h.bits, h.sh.congr (fun x y hx _ => e x hx), h.ne, h.wr, h.rw_⟩
theorem IsBA.facts (h : IsBA w q g n nw ws B) : w.cell? ⟨q, 0, none⟩ = some (.slice (some ⟨g, 0, none⟩) nw nw) ∧ w.cell? ⟨q, 1, none⟩ = some (.int .i64 n) := ⟨h.st.cell? 0, h.st.cell? 1⟩
theorem Shows.at1 (h : Shows nw 1 ws (fun x _ => B x)) {x : Nat} (hx : x < 32 * nw) : (ws.getD (x / 32) 0).testBit (x % 32) = B x := by
  have := h.bit x 0 hx (by omega)
  rwa [Nat.zero_mul, Nat.zero_add] at this
end

/-- An array in new memory is handed back. -/
def BAOut (n nw : Nat) (B : Nat → Bool) (w : World) (e : Ending) (w' : World) : Prop :=
  ∃ q g ws, e = .returned (.pointer (some ⟨q, 0, none⟩)) ∧ w.heap.size ≤ g ∧ w.heap.size ≤ q ∧ IsBA w' q g n nw ws B ∧ Below w.heap.size w w'

set_option maxRecDepth 20000 in
set_option maxHeartbeats 2000000 in
theorem newArr (n nw : Nat) (w : World) (hn : n ≤ 200) (hnw : nw = (n + 31) / 32) : Calls Try.prog 65 #[.int .i64 n] w (BAOut n nw (fun _ => false) w) := by
  obtain ⟨i4, hi4, hb0, hb1, hb2⟩ := info_of infoU
  have hmk := fun W => run_make (P := Try.prog) W 84 87 i4 (.int .u32 0) Try.underlying84 hi4 hb0 .i64 .i64 (nw : Int) (nw : Int) (by omega) (by omega) (by rw [hb2]; omega) (by omega)
  simp only [hb1] at hmk
  have e1 : ((n : Int) + 31) / 32 = (nw : Int) := by omega
  have HN := hid hnw
  clear hnw
  have hnw7 : nw ≤ 7 := by omega
  go_enter Try.func65, Try.ntmps65
  go_wp2
  try go_at_call 68
  first | go_wp2 | skip
  go_ret
  have h1 := Arr.made w 87 (.int .u32 0) nw
  have h2 := Arr.of_new (w.alloc (.cells (madeCells #[.int .u32 0] nw) 87)) 86 #[.slice (some ⟨w.heap.size, 0, none⟩) nw nw, .int .i64 n]
  refine ⟨w.heap.size + 1, w.heap.size, List.replicate nw 0, ?_, Nat.le_refl _, by omega, ⟨?_, ?_, ?_, by omega, by have := HN.out; omega, by have := HN.out; omega⟩, ?_⟩
  · simp
  · simpa using h2
  · have := h1.alloc (.cells #[.slice (some ⟨w.heap.size, 0, none⟩) nw nw, .int .i64 n] 86)
    simpa [u32s] using this
  · have := Shows.zero nw 1
    rwa [Nat.mul_one] at this
  · exact ((Below.refl _ _).alloc (Nat.le_refl _) _).alloc (by simp) _

theorem Shows.one {nw : Nat} {ws : List Nat} {B : Nat → Bool} (h : Shows nw 1 ws (fun x _ => B x)) {x v : Nat} (hx : x < 32 * nw) (hv : v < 4294967296) {b : Bool} (hb : ∀ i, i < 32 → v.testBit i = if i = x % 32 then b else (ws.getD (x / 32) 0).testBit i) :
    Shows nw 1 (ws.set (x / 32) v) (fun i _ => if i = x then b else B i) := by
  have h1 := h.upd (x := x) (y := 0) (v := v) (b := b) hx (by omega) hv (by rwa [Nat.zero_mul, Nat.zero_add])
  rw [Nat.zero_mul, Nat.zero_add] at h1
  refine h1.congr (fun i j _ hj => ?_)
  unfold put2
  by_cases hi : i = x
  · rw [if_pos hi, if_pos ⟨hi, by omega⟩]
  · rw [if_neg hi, if_neg (fun hh => hi hh.1)]
def putB (B : Nat → Bool) (x : Nat) (b : Bool) : Nat → Bool := fun i => if i = x then b else B i

set_option maxRecDepth 20000 in
set_option maxHeartbeats 2000000 in
theorem setArr (q g n nw x : Nat) (ws : List Nat) (B : Nat → Bool) (w : World) (h : IsBA w q g n nw ws B) (hx : x < 32 * nw) (hnw : nw ≤ 7) :
    Calls Try.prog 66 #[.pointer (some ⟨q, 0, none⟩), .int .i64 x] w fun e w' => e = .returned (.tuple #[]) ∧ w' = w.setCell ⟨g, x / 32, none⟩ (.int .u32 (ws.getD (x / 32) 0 ||| 2 ^ (x % 32) : Nat)) := by
  obtain ⟨c0, c1⟩ := h.facts
  have hk : x / 32 < nw := by omega
  have hwl := h.sh.lt (x / 32)
  have c4 := u32s_at h.bits (x / 32) (by rw [h.sh.len, Nat.mul_one]; exact hk)
  have fz := h.bits.frozen (x / 32)
  have hpl := pow_lt32 (Nat.mod_lt x (show 0 < 32 by omega))
  have ho := u32_or_nat (ws.getD (x / 32) 0) (2 ^ (x % 32)) hwl hpl
  rw [← pow_mod hpl] at ho
  have e3 : (x : Int) / 32 = ((x / 32 : Nat) : Int) := by omega
  have e4 : (x : Int) % 32 = ((x % 32 : Nat) : Int) := by omega
  have hm : x % 32 < 32 := Nat.mod_lt _ (by omega)
  have hx5 : x ≤ 1024 := by omega
  clear h hx
  generalize x / 32 = d at *
  generalize x % 32 = m at *
  generalize hww : ws.getD d 0 ||| 2 ^ m = v at *
  generalize ws.getD d 0 = wd at *
  have i1 : (d : Int) < (nw : Int) := by omega
  go_enter Try.func66, Try.ntmps66
  go_wp2
  go_end0
  exact ⟨rfl, rfl⟩

theorem and_test (v m : Nat) (hv : v < 4294967296) (hm : m < 32) : (bits .and .u32 (v : Int) ((2 : Int) ^ m % 4294967296) != 0) = v.testBit m := by
  have hp := pow_lt32 hm
  rw [pow_mod hp, u32_and_nat v (2 ^ m) hv hp, nat_bit, Nat.testBit_eq_decide_div_mod_eq]
  have h4 := Nat.mod_lt (v / 2 ^ m) (show 0 < 2 by omega)
  have hpp := Nat.two_pow_pos m
  generalize v / 2 ^ m % 2 = u at *
  have h5 : u = 0 ∨ u = 1 := by omega
  rcases h5 with rfl | rfl
  · simp
  · rw [Nat.one_mul]
    generalize 2 ^ m = pp at *
    rw [Bool.eq_iff_iff]; simp; omega

set_option maxRecDepth 20000 in
set_option maxHeartbeats 2000000 in
theorem getArr (q g n nw x : Nat) (ws : List Nat) (B : Nat → Bool) (w : World) (h : IsBA w q g n nw ws B) (hx : x < 32 * nw) (hnw : nw ≤ 7) :
    Calls Try.prog 29 #[.pointer (some ⟨q, 0, none⟩), .int .i64 x] w fun e w' => e = .returned (.bool (B x)) ∧ w = w' := by
  obtain ⟨c0, c1⟩ := h.facts
  have hk : x / 32 < nw := by omega
  have hwl := h.sh.lt (x / 32)
  have c4 := u32s_at h.bits (x / 32) (by rw [h.sh.len, Nat.mul_one]; exact hk)
  have hbt := and_test (ws.getD (x / 32) 0) (x % 32) hwl (Nat.mod_lt _ (by omega))
  rw [h.sh.at1 hx] at hbt
  have e3 : (x : Int) / 32 = ((x / 32 : Nat) : Int) := by omega
  have e4 : (x : Int) % 32 = ((x % 32 : Nat) : Int) := by omega
  have hm : x % 32 < 32 := Nat.mod_lt _ (by omega)
  have hx5 : x ≤ 1024 := by omega
  clear h hx
  generalize B x = b at *
  generalize x / 32 = d at *
  generalize x % 32 = m at *
  generalize ws.getD d 0 = wd at *
  have i1 : (d : Int) < (nw : Int) := by omega
  go_enter Try.func29, Try.ntmps29
  go_wp2
  go_ret
  exact ⟨rfl, rfl⟩
theorem sizeArr (q g n nw : Nat) (ws : List Nat) (B : Nat → Bool) (w : World) (h : IsBA w q g n nw ws B) :
    Calls Try.prog 28 #[.pointer (some ⟨q, 0, none⟩)] w fun e w' => e = .returned (.int .i64 n) ∧ w = w' := by
  obtain ⟨c0, c1⟩ := h.facts
  clear h
  go_enter Try.func28, Try.ntmps28
  go_wp2
  go_ret
  exact ⟨rfl, rfl⟩

/-- Bits in new memory are handed back. -/
def BitsBack (l : List Bool) (n : Nat) (w : World) (e : Ending) (w' : World) : Prop :=
  ∃ G, e = .returned (.slice (some ⟨G, 0, none⟩) n n) ∧ w.heap.size ≤ G ∧ l.length = n ∧ Rd w' (some ⟨G, 0, none⟩) n (l.map Value.bool) ∧ Below w.heap.size w w'
def firstN (B : Nat → Bool) (n : Nat) : List Bool := (List.range n).map B
theorem firstN_len (B : Nat → Bool) (n : Nat) : (firstN B n).length = n := by simp [firstN]

set_option maxRecDepth 20000 in
set_option maxHeartbeats 4000000 in
theorem boolsOf (q g n nw : Nat) (ws : List Nat) (B : Nat → Bool) (w : World) (h : IsBA w q g n nw ws B) (hq : q < w.heap.size) (hg : g < w.heap.size) (hn : n ≤ 200) (hnw : nw ≤ 7) :
    Calls Try.prog 22 #[.pointer (some ⟨q, 0, none⟩)] w (BitsBack (firstN B n) n w) := by
  obtain ⟨i4, hi4, hb0, hb1, hb2⟩ := info_of infoBool
  have hmk := fun W' => run_make (P := Try.prog) W' 29 4 i4 (.bool false) Try.underlying29 hi4 hb0 .i64 .i64 (n : Int) (n : Int) (by omega) (by omega) (by rw [hb2]; omega) (by omega)
  simp only [hb1] at hmk
  have sz := sizeArr q g n nw ws B w h
  have HW := hid (fun (w' : World) (hw : Below w.heap.size w w') => h.below hw hq hg)
  have hwr := h.wr
  clear h
  go_enter Try.func22, Try.ntmps22
  go_wp2_with fail
  refine sz.mono ?_
  rintro e w1 ⟨rfl, rfl⟩
  clear sz
  go_wp2_with fail
  have HA := hid (Arr.made w 4 (.bool false) n)
  have HB := hid (show Below w.heap.size w (w.alloc (.cells (madeCells #[.bool false] n) 4)) from (Below.refl _ _).alloc (Nat.le_refl _) _)
  generalize w.alloc (.cells (madeCells #[.bool false] n) 4) = w1 at *
  clear hmk
  go_loopw [10] (fun iv wr => ∃ i : Nat, i ≤ n ∧ iv = .int .i64 (i : Nat) ∧ Arr wr w.heap.size 4 (((firstN B n).map Value.bool).take i ++ List.replicate (n - i) (.bool false)) ∧ Below w.heap.size w wr) (fun iv _ => n - (intOf iv).toNat)
  case atStart => exact ⟨0, by omega, rfl, by simpa using HA.out, HB.out⟩
  case round =>
    clear HA HB
    obtain ⟨i, hi, rfl, hA, hB⟩ := hrel
    have HA := hid hA
    have HB := hid hB
    clear hA hB
    have hlen : ((firstN B n).map Value.bool).length = n := by simp [firstN]
    by_cases hlt : i < n
    · have hlt' : (i : Int) < (n : Int) := by omega
      have gb := getArr q g n nw i ws B wr (HW.out wr HB.out) (by omega) hnw
      obtain ⟨v1, hv1⟩ := HA.out.has i (by rw [List.length_append, List.length_take, List.length_replicate, hlen]; omega)
      have fz := HA.out.frozen i
      have HS2 := hid (fillSet (.bool false) ((firstN B n).map Value.bool) n i (by rw [hlen]; exact hlt) hlt)
      have HV := hid (show ((firstN B n).map Value.bool).getD i (.bool false) = .bool (B i) from by simp [firstN, List.getD, List.getElem?_range hlt])
      rw [HV.out] at HS2
      clear HV
      generalize B i = bv at *
      go_wp2_with fail
      refine gb.mono ?_
      rintro e w6 ⟨rfl, rfl⟩
      clear gb
      go_wp2_with fail
      go_roundw
      case rel =>
        refine ⟨i + 1, by omega, by go_num, ?_, Below.setCell HB.out (by simp) _⟩
        rw [← HS2.out]
        exact HA.out.set i _
      case measure => simp [intOf]; omega
    · obtain rfl : i = n := by omega
      have hlt' : ¬ (i : Int) < (i : Int) := by omega
      have hfull := HA.out
      rw [Nat.sub_self, List.replicate_zero, List.append_nil, List.take_of_length_le (by rw [hlen]; exact Nat.le_refl _)] at hfull
      have HF := hid hfull
      clear hfull
      go_wp2_with fail
      go_ret
      refine ⟨w.heap.size, rfl, Nat.le_refl _, firstN_len B i, ?_, HB.out⟩
      have := Rd.of_arr HF.out
      rwa [hlen] at this
end Go.Proofs.Ytkonepeejhgloaa
