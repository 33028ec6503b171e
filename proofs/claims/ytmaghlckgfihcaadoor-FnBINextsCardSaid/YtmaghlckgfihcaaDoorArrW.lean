/- gozxing.BitArray: a new one, a bit that is set, read; impl.array, impl.bools. -/
import Derived.Test.YtmaghlckgfihcaaDoorRowsW
import Derived.Test.YtmaghlckgfihcaaDoorRevW
namespace Go.Proofs.YtmaghlckgfihcaaDoor
open Go.RowKit
set_option linter.unusedVariables false

/-- An array of n bits in nw words. -/
structure IsBA (w : World) (q g n nw : Nat) (ws : List Nat) (B : Nat → Bool) : Prop where
  st : Arr w q 34 [.slice (some ⟨g, 0, none⟩) nw nw, .int .i64 n]
  bits : Arr w g 35 (u32s ws)
  sh : Shows nw 1 ws (fun x _ => B x)
  ne : g ≠ q
  wr : n ≤ 32 * nw
  rw_ : 32 * nw ≤ n + 31
section
variable {w w' : World} {q g n nw : Nat} {ws : List Nat} {B : Nat → Bool}
theorem IsBA.below {C : Nat} (h : IsBA w q g n nw ws B) (hb : Below C w w') (hq : q < C) (hg : g < C) : IsBA w' q g n nw ws B :=
  ⟨h.st.below hb hq, h.bits.below hb hg, h.sh, h.ne, h.wr, h.rw_⟩
theorem IsBA.drewN (h : IsBA w q g n nw ws B) (k : Nat) : IsBA (w.drewN k) q g n nw ws B := ⟨h.st, h.bits, h.sh, h.ne, h.wr, h.rw_⟩
theorem IsBA.put (h : IsBA w q g n nw ws B) {k v : Nat} {B' : Nat → Bool} (hs : Shows nw 1 (ws.set k v) (fun x _ => B' x)) : IsBA (w.setCell ⟨g, k, none⟩ (.int .u32 v)) q g n nw (ws.set k v) B' :=
  ⟨h.st.far (by have := h.ne; simpa using Ne.symm this) _, by rw [← u32s_set]; exact h.bits.set k _, hs, h.ne, h.wr, h.rw_⟩
theorem IsBA.congr (h : IsBA w q g n nw ws B) {C : Nat → Bool} (e : ∀ x, x < 32 * nw → B x = C x) : IsBA w q g n nw ws C :=
  ⟨h.st, h.bits, h.sh.congr (fun x y hx _ => e x hx), h.ne, h.wr, h.rw_⟩
theorem IsBA.facts (h : IsBA w q g n nw ws B) : w.cell? ⟨q, 0, none⟩ = some (.slice (some ⟨g, 0, none⟩) nw nw) ∧ w.cell? ⟨q, 1, none⟩ = some (.int .i64 n) := ⟨h.st.cell? 0, h.st.cell? 1⟩
theorem Shows.at1 (h : Shows nw 1 ws (fun x _ => B x)) {x : Nat} (hx : x < 32 * nw) : (ws.getD (x / 32) 0).testBit (x % 32) = B x := by
  have := h.bit x 0 hx (by omega)
  rwa [Nat.zero_mul, Nat.zero_add] at this
end

/-- An array in new memory is handed back. -/
def BAOut (n nw : Nat) (B : Nat → Bool) (w : World) (e : Ending) (w' : World) : Prop :=
  ∃ q g ws, e = .returned (.pointer (some ⟨q, 0, none⟩)) ∧ w.heap.size ≤ g ∧ w.heap.size ≤ q ∧ IsBA w' q g n nw ws B ∧ Below w.heap.size w w'

set_option maxRecDepth 20000 in
set_option maxHeartbeats 2000000 in
theorem newArr (n nw : Nat) (w : World) (hn : n ≤ 200) (hnw : nw = (n + 31) / 32) : Calls Tryd.prog 10 #[.int .i64 n] w (BAOut n nw (fun _ => false) w) := by
  obtain ⟨i4, hi4, hb0, hb1, hb2⟩ := info_of infoU
  have hmk := fun W => run_make (P := Tryd.prog) W 32 35 i4 (.int .u32 0) Tryd.underlying32 hi4 hb0 .i64 .i64 (nw : Int) (nw : Int) (by omega) (by omega) (by rw [hb2]; omega) (by omega)
  simp only [hb1] at hmk
  have e1 : ((n : Int) + 31) / 32 = (nw : Int) := by omega
  have HN := hid hnw
  clear hnw
  have hnw7 : nw ≤ 7 := by omega
  go_enter Tryd.func10, Tryd.ntmps10
  go_wp2
  try go_at_call 13
  first | go_wp2 | skip
  go_ret
  have h1 := Arr.made w 35 (.int .u32 0) nw
  have h2 := Arr.of_new (w.alloc (.cells (madeCells #[.int .u32 0] nw) 35)) 34 #[.slice (some ⟨w.heap.size, 0, none⟩) nw nw, .int .i64 n]
  refine ⟨w.heap.size + 1, w.heap.size, List.replicate nw 0, ?_, Nat.le_refl _, by omega, ⟨?_, ?_, ?_, by omega, by have := HN.out; omega, by have := HN.out; omega⟩, ?_⟩
  · simp
  · simpa using h2
  · have := h1.alloc (.cells #[.slice (some ⟨w.heap.size, 0, none⟩) nw nw, .int .i64 n] 34)
    simpa [u32s] using this
  · have := Shows.zero nw 1
    rwa [Nat.mul_one] at this
  · exact ((Below.refl _ _).alloc (Nat.le_refl _) _).alloc (by simp) _

theorem Shows.one {nw : Nat} {ws : List Nat} {B : Nat → Bool} (h : Shows nw 1 ws (fun x _ => B x)) {x v : Nat} (hx : x < 32 * nw) (hv : v < 4294967296) {b : Bool} (hb : ∀ i, i < 32 → v.testBit i = if i = x % 32 then b else (ws.getD (x / 32) 0).testBit i) :
    Shows nw 1 (ws.set (x / 32) v) (fun i _ => if i = x then b else B i) := by
  have h1 := h.upd (x := x) (y := 0) (v := v) (b := b) hx (by omega) hv (by rwa [Nat.zero_mul, Nat.zero_add])
  rw [Nat.zero_mul, Nat.zero_add] at h1
  refine h1.congr (fun i j _ hj => ?_)
  unfold put2
  by_cases hi : i = x
  · rw [if_pos hi, if_pos ⟨hi, by omega⟩]
  · rw [if_neg hi, if_neg (fun hh => hi hh.1)]
def putB (B : Nat → Bool) (x : Nat) (b : Bool) : Nat → Bool := fun i => if i = x then b else B i

set_option maxRecDepth 20000 in
set_option maxHeartbeats 2000000 in
theorem setArr (q g n nw x : Nat) (ws : List Nat) (B : Nat → Bool) (w : World) (h : IsBA w q g n nw ws B) (hx : x < 32 * nw) (hnw : nw ≤ 7) :
    Calls Tryd.prog 11 #[.pointer (some ⟨q, 0, none⟩), .int .i64 x] w fun e w' => e = .returned (.tuple #[]) ∧ w' = w.setCell ⟨g, x / 32, none⟩ (.int .u32 (ws.getD (x / 32) 0 ||| 2 ^ (x % 32) : Nat)) := by
  obtain ⟨c0, c1⟩ := h.facts
  have hk : x / 32 < nw := by omega
  have hwl := h.sh.lt (x / 32)
  have c4 := u32s_at h.bits (x / 32) (by rw [h.sh.len, Nat.mul_one]; exact hk)
  have fz := h.bits.frozen (x / 32)
  have hpl := pow_lt32 (Nat.mod_lt x (show 0 < 32 by omega))
  have ho := u32_or_nat (ws.getD (x / 32) 0) (2 ^ (x % 32)) hwl hpl
  rw [← pow_mod hpl] at ho
  have e3 : (x : Int) / 32 = ((x / 32 : Nat) : Int) := by omega
  have e4 : (x : Int) % 32 = ((x % 32 : Nat) : Int) := by omega
  have hm : x % 32 < 32 := Nat.mod_lt _ (by omega)
  have hx5 : x ≤ 1024 := by omega
  clear h hx
  generalize x / 32 = d at *
  generalize x % 32 = m at *
  generalize hww : ws.getD d 0 ||| 2 ^ m = v at *
  generalize ws.getD d 0 = wd at *
  have i1 : (d : Int) < (nw : Int) := by omega
  go_enter Tryd.func11, Tryd.ntmps11
  go_wp2
  go_end0
  exact ⟨rfl, rfl⟩

theorem and_test (v m : Nat) (hv : v < 4294967296) (hm : m < 32) : (bits .and .u32 (v : Int) ((2 : Int) ^ m % 4294967296) != 0) = v.testBit m := by
  have hp := pow_lt32 hm
  rw [pow_mod hp, u32_and_nat v (2 ^ m) hv hp, nat_bit, Nat.testBit_eq_decide_div_mod_eq]
  have h4 := Nat.mod_lt (v / 2 ^ m) (show 0 < 2 by omega)
  have hpp := Nat.two_pow_pos m
  generalize v / 2 ^ m % 2 = u at *
  have h5 : u = 0 ∨ u = 1 := by omega
  rcases h5 with rfl | rfl
  · simp
  · rw [Nat.one_mul]
    generalize 2 ^ m = pp at *
    rw [Bool.eq_iff_iff]; simp; omega

set_option maxRecDepth 20000 in
set_option maxHeartbeats 4000000 in
theorem arrOf (A : Option Addr) (c n nw : Nat) (zs : List Bool) (w : World) (hZ : Rd w A n (zs.map Value.bool)) (hn : n ≤ 200) (hnw : nw = (n + 31) / 32) :
    Calls Tryd.prog 7 #[.slice A n c] w (BAOut n nw (fun i => zs.getD i false) w) := by
  have na := newArr n nw w hn hnw
  have hnw7 : nw ≤ 7 := by omega
  have hzl : zs.length = n := by have := hZ.1; simpa using this
  have HZ := hid hZ
  have HZL := hid hzl
  clear hZ hnw hzl
  go_enter Tryd.func7, Tryd.ntmps7
  go_wp2_with fail
  refine na.mono ?_
  rintro e w1 ⟨q, g, ws, rfl, hg, hq, hM, hb1⟩
  have HM := hid hM
  have HB1 := hid hb1
  clear na hM hb1
  go_wp2_with fail
  go_loopw [11] (fun iv wr => ∃ (i : Nat) (ws : List Nat), i ≤ n ∧ iv = .int .i64 (i : Nat) ∧ IsBA wr q g n nw ws (fun x => decide (x < i) && zs.getD x false) ∧ Below w.heap.size w wr) (fun iv _ => n - (intOf iv).toNat)
  case atStart => exact ⟨0, ws, by omega, rfl, HM.out.congr (fun x _ => by simp), HB1.out⟩
  case round =>
    clear HM HB1
    obtain ⟨i, ws2, hi, rfl, hM, hB⟩ := hrel
    have HM := hid hM
    have HB := hid hB
    clear hM hB
    by_cases hlt : i < n
    · have hlt' : (i : Int) < (n : Int) := by omega
      obtain ⟨b4, o4, rfl, hb4, hc4⟩ := rd_bool (HZ.out.below HB.out) i hlt
      have hir : i < 32 * nw := Nat.lt_of_lt_of_le hlt HM.out.wr
      have sa := setArr q g n nw i ws2 _ wr HM.out hir hnw7
      have HSH := hid (HM.out.sh.one hir (Nat.or_lt_two_pow (n := 32) (HM.out.sh.lt _) (pow_lt32 (Nat.mod_lt _ (by omega)))) (fun j _ => or_bit_at _ _ j))
      cases hb : zs.getD i false with
      | true =>
        rw [hb] at hc4
        have HBV := hid hb
        clear hb
        go_wp2_with fail
        refine sa.mono ?_
        rintro e w5 ⟨rfl, rfl⟩
        clear sa
        go_wp2_with fail
        go_roundw
        case rel =>
          refine ⟨i + 1, _, by omega, by go_num, (HM.out.put HSH.out).congr (fun x _ => ?_), HB.out.setCell (by simpa using hg) _⟩
          by_cases hx : x = i
          · rw [if_pos hx, hx, HBV.out]; simp
          · rw [if_neg hx]
            have : decide (x < i + 1) = decide (x < i) := decide_eq_decide.2 (by omega)
            rw [this]
        case measure => simp [intOf]; omega
      | false =>
        rw [hb] at hc4
        have HBV := hid hb
        clear hb sa
        go_wp2_with fail
        go_roundw
        case rel =>
          refine ⟨i + 1, ws2, by omega, by go_num, HM.out.congr (fun x _ => ?_), HB.out⟩
          by_cases hx : x = i
          · rw [hx, HBV.out]; simp
          · have : decide (x < i + 1) = decide (x < i) := decide_eq_decide.2 (by omega)
            rw [this]
        case measure => simp [intOf]; omega
    · obtain rfl : i = n := by omega
      have hlt' : ¬ (i : Int) < (i : Int) := by omega
      go_wp2_with fail
      go_ret
      refine ⟨q, g, ws2, rfl, hg, hq, HM.out.congr (fun x _ => ?_), HB.out⟩
      by_cases hx : x < i
      · simp [hx]
      · have : zs.getD x false = false := by rw [List.getD, List.getElem?_eq_none (by rw [HZL.out]; omega)]; rfl
        show (decide (x < i) && zs.getD x false) = zs.getD x false
        rw [this, Bool.and_false]

/-- Bits in new memory are handed back. -/
def BitsBack (l : List Bool) (n : Nat) (w : World) (e : Ending) (w' : World) : Prop :=
  ∃ G, e = .returned (.slice (some ⟨G, 0, none⟩) n n) ∧ w.heap.size ≤ G ∧ l.length = n ∧ Rd w' (some ⟨G, 0, none⟩) n (l.map Value.bool) ∧ Below w.heap.size w w'
def firstN (B : Nat → Bool) (n : Nat) : List Bool := (List.range n).map B
theorem firstN_len (B : Nat → Bool) (n : Nat) : (firstN B n).length = n := by simp [firstN]

end Go.Proofs.YtmaghlckgfihcaaDoor
