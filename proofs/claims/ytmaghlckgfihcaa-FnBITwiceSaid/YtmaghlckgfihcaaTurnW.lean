/- BitArray.Xor, BitArray.Reverse: the walks. -/
import Derived.Test.YtmaghlckgfihcaaArrW
namespace Go.Proofs.Ytmaghlckgfihcaa
open Go.RowKit
set_option linter.unusedVariables false

theorem Shows.mk1 {nw : Nat} {V : List Nat} {B : Nat → Bool} (hl : V.length = nw) (hlt : ∀ k, V.getD k 0 < 4294967296) (hb : ∀ k i, k < nw → i < 32 → (V.getD k 0).testBit i = B (32 * k + i)) : Shows nw 1 V (fun x _ => B x) := by
  refine ⟨by rw [hl, Nat.mul_one], hlt, fun x y hx hy => ?_⟩
  obtain rfl : y = 0 := by omega
  rw [Nat.zero_mul, Nat.zero_add, hb (x / 32) (x % 32) (by omega) (Nat.mod_lt _ (by omega)), Nat.div_add_mod]
theorem Shows.get1 {nw : Nat} {V : List Nat} {B : Nat → Bool} (h : Shows nw 1 V (fun x _ => B x)) {k i : Nat} (hk : k < nw) (hi : i < 32) : (V.getD k 0).testBit i = B (32 * k + i) := by
  have := h.at1 (x := 32 * k + i) (by omega)
  rwa [show (32 * k + i) / 32 = k from by omega, show (32 * k + i) % 32 = i from by omega] at this
theorem getD_app (a b : List Nat) (k : Nat) : (a ++ b).getD k 0 = if k < a.length then a.getD k 0 else b.getD (k - a.length) 0 := by
  simp only [List.getD]
  split
  · rename_i h; rw [List.getElem?_append_left h]
  · rename_i h; rw [List.getElem?_append_right (by omega)]

/-- Nothing but block g has turned. -/
def OnlyG (w w' : World) (g : Nat) : Prop := w.heap.size ≤ w'.heap.size ∧ ∀ j, j ≠ g → j < w.heap.size → w'.heap[j]? = w.heap[j]?
theorem OnlyG.set {w w' : World} {g : Nat} (h : OnlyG w w' g) (k : Nat) (v : Value) : OnlyG w (w'.setCell ⟨g, k, none⟩ v) g :=
  ⟨by rw [World.size_setCell]; exact h.1, fun j hj hl => (Below.heap_setCell w' ⟨g, k, none⟩ v j hj).trans (h.2 j hj hl)⟩
theorem Own.only {w w' : World} {B g : Nat} {e : TypeId} {v : Value} {xs : List Value} (h : Own w B e v xs) (ho : OnlyG w w' g) (hne : v.ownBlock ≠ some g) : Own w' B e v xs := by
  have hlt := h.lt
  refine ⟨h.1, ?_⟩
  rcases h.2 with h2 | ⟨b, cap, cur, hv, hg, hh, r⟩
  · exact .inl h2
  · exact .inr ⟨b, cap, cur, hv, hg, by rw [ho.2 b (fun e => hne (by rw [hv, ← e]; rfl)) (hlt b (by rw [hv]; rfl)).2]; exact hh, r⟩

/-- The first array, xored; the second one as it was. -/
def XorOut (q g n nw : Nat) (B B2 : Nat → Bool) (w : World) (e : Ending) (w' : World) : Prop :=
  e = .returned .nilIface ∧ (∃ ws', IsBA w' q g n nw ws' (fun x => B x != B2 x)) ∧ OnlyG w w' g ∧ ∀ C, C ≤ g → C ≤ w.heap.size → Below C w w'

set_option maxRecDepth 20000 in
set_option maxHeartbeats 4000000 in
theorem xorArr (q g q2 g2 n nw : Nat) (ws ws2 : List Nat) (B B2 : Nat → Bool) (w : World) (h : IsBA w q g n nw ws B) (h2 : IsBA w q2 g2 n nw ws2 B2) (hgg : g2 ≠ g) (hqg : q2 ≠ g) (hnw : nw ≤ 7) :
    Calls Try.prog 34 #[.pointer (some ⟨q, 0, none⟩), .pointer (some ⟨q2, 0, none⟩)] w (XorOut q g n nw B B2 w) := by
  obtain ⟨c0, c1⟩ := h.facts
  obtain ⟨d0, d1⟩ := h2.facts
  have HM := hid h
  have HM2 := hid h2
  clear h h2
  go_enter Try.func34, Try.ntmps34
  go_wp2_with fail
  go_quiet (fail)
  go_wp2_with fail
  generalize hwr : w.drewN _ = w1 at *
  have HM1 := hid (show IsBA w1 q g n nw ws B from by rw [← hwr]; exact HM.out.drewN _)
  have HM21 := hid (show IsBA w1 q2 g2 n nw ws2 B2 from by rw [← hwr]; exact HM2.out.drewN _)
  have HB1 := hid (show ∀ C, C ≤ g → C ≤ w.heap.size → Below C w w1 from fun C _ hC => by rw [← hwr]; exact (below_drewN (Below.refl _ _) _).mono hC)
  have HO1 := hid (show OnlyG w w1 g from by rw [← hwr]; exact ⟨Nat.le_refl _, fun _ _ _ => rfl⟩)
  clear hwr c0 c1 d0 d1 HM HM2
  go_loopw [5] (fun iv wr => ∃ (i : Nat) (ws3 : List Nat), i ≤ nw ∧ iv = .int .i64 (i : Nat) ∧ IsBA wr q g n nw ws3 (fun x => if x < 32 * i then B x != B2 x else B x) ∧ IsBA wr q2 g2 n nw ws2 B2 ∧ Hid (OnlyG w wr g) ∧ Hid (∀ C, C ≤ g → C ≤ w.heap.size → Below C w wr)) (fun iv _ => nw - (intOf iv).toNat)
  case atStart => exact ⟨0, ws, by omega, rfl, HM1.out.congr (fun x _ => by simp), HM21.out, HO1, HB1⟩
  case round =>
    clear HM1 HM21 HB1 HO1
    obtain ⟨i, ws3, hi, rfl, hM, hM2, HO, HB⟩ := hrel
    obtain ⟨c0, c1⟩ := hM.facts
    obtain ⟨d0, d1⟩ := hM2.facts
    have HM := hid hM
    have HM2 := hid hM2
    clear hM hM2
    by_cases hlt : i < nw
    · have hlt' : (i : Int) < (nw : Int) := by omega
      have ck := u32s_at HM.out.bits i (by rw [HM.out.sh.len, Nat.mul_one]; exact hlt)
      have ck2 := u32s_at HM2.out.bits i (by rw [HM2.out.sh.len, Nat.mul_one]; exact hlt)
      have l1 := HM.out.sh.lt i
      have l2 := HM2.out.sh.lt i
      have hx := u32_xor_nat _ _ l1 l2
      have fz := HM.out.bits.frozen i
      have hxl : ws3.getD i 0 ^^^ ws2.getD i 0 < 4294967296 := Nat.xor_lt_two_pow (n := 32) l1 l2
      have HSH := hid (show Shows nw 1 (ws3.set i (ws3.getD i 0 ^^^ ws2.getD i 0)) (fun x _ => if x < 32 * (i + 1) then B x != B2 x else B x) from by
        have hil : i < ws3.length := by rw [HM.out.sh.len, Nat.mul_one]; exact hlt
        refine Shows.mk1 (B := fun x => if x < 32 * (i + 1) then B x != B2 x else B x) (by rw [List.length_set, HM.out.sh.len, Nat.mul_one]) (fun k => ?_) (fun k j hk hj => ?_)
        · rw [getD_set2 _ _ _ _ hil]
          split
          · exact hxl
          · exact HM.out.sh.lt k
        · rw [getD_set2 _ _ _ _ hil]
          have g1 := HM.out.sh.get1 hk hj
          by_cases hki : k = i
          · subst hki
            have g2 := HM2.out.sh.get1 hk hj
            rw [if_pos rfl, Nat.testBit_xor, g1, g2, if_neg (by omega), if_pos (by omega)]
          · rw [if_neg hki, g1]
            by_cases h5 : 32 * k + j < 32 * i
            · rw [if_pos h5, if_pos (by omega)]
            · rw [if_neg h5, if_neg (by omega)])
      clear l1 l2 hxl
      generalize ws3.getD i 0 ^^^ ws2.getD i 0 = v at *
      generalize ws3.getD i 0 = v1 at *
      generalize ws2.getD i 0 = v2 at *
      go_wp2_with fail
      go_region
      all_goals (
        go_wp2_with fail
        go_roundw
        case rel =>
          refine ⟨i + 1, _, by omega, by go_num, (IsBA.drewN HM.out 1).put HSH.out, ?_, hid (OnlyG.set HO.out _ _), hid (fun C h1 h2 => ((HB.out C h1 h2).drew).setCell (by simpa using h1) _)⟩
          exact ⟨(HM2.out.st.drew).far (by simpa using hqg) _, (HM2.out.bits.drew).far (by simpa using hgg) _, HM2.out.sh, HM2.out.ne, HM2.out.wr, HM2.out.rw_⟩
        case measure => simp [intOf]; omega)
    · obtain rfl : i = nw := by omega
      have hlt' : ¬ (i : Int) < (i : Int) := by omega
      go_wp2_with fail
      go_ret
      exact ⟨rfl, ⟨ws3, HM.out.congr (fun x hx => by simp [hx])⟩, HO.out, HB.out⟩

/-- The words turned round, as far as word i. -/
def turnTo (ws : List Nat) (nw i : Nat) : List Nat := List.replicate (nw - i) 0 ++ ((ws.take i).map rev32).reverse
theorem turnTo_len (ws : List Nat) (nw i : Nat) (h : ws.length = nw) (hi : i ≤ nw) : (turnTo ws nw i).length = nw := by
  simp [turnTo, h]; omega
theorem turnTo_set (ws : List Nat) (nw i : Nat) (h : ws.length = nw) (hi : i < nw) : (turnTo ws nw i).set (nw - 1 - i) (rev32 (ws.getD i 0)) = turnTo ws nw (i + 1) := by
  unfold turnTo
  rw [show nw - i = (nw - 1 - i) + 1 from by omega, List.replicate_succ', List.append_assoc, List.set_append_right _ _ (by simp), show nw - (i + 1) = nw - 1 - i from by omega]
  simp only [List.length_replicate, Nat.sub_self, List.singleton_append, List.set_cons_zero]
  rw [List.take_succ_eq_append_getElem (by omega), List.map_append, List.reverse_append]
  simp [List.getD, List.getElem?_eq_getElem (show i < ws.length by omega)]
theorem turnAll_at (ws : List Nat) (nw k : Nat) (h : ws.length = nw) (hk : k < nw) : (turnTo ws nw nw).getD k 0 = rev32 (ws.getD (nw - 1 - k) 0) := by
  unfold turnTo
  rw [Nat.sub_self, List.replicate_zero, List.nil_append, List.take_of_length_le (by omega), List.getD, List.getElem?_reverse (by simp; omega), List.getElem?_map]
  simp [h, List.getElem?_eq_getElem (show nw - 1 - k < ws.length by omega), List.getD]
theorem turn_lt (ws : List Nat) (nw k : Nat) (h : ws.length = nw) : (turnTo ws nw nw).getD k 0 < 4294967296 := by
  rcases Nat.lt_or_ge k nw with h1 | h1
  · rw [turnAll_at ws nw k h h1]; exact rev_lt _
  · rw [List.getD, List.getElem?_eq_none (by rw [turnTo_len ws nw nw h (Nat.le_refl _)]; exact h1)]; decide
theorem turn_bit {ws : List Nat} {nw k i : Nat} {B : Nat → Bool} (h : Shows nw 1 ws (fun x _ => B x)) (hk : k < nw) (hi : i < 32) : ((turnTo ws nw nw).getD k 0).testBit i = B (32 * nw - 1 - (32 * k + i)) := by
  have hl : ws.length = nw := by rw [h.len, Nat.mul_one]
  rw [turnAll_at ws nw k hl hk, rev_bit _ _ hi, h.get1 (show nw - 1 - k < nw by omega) (show 31 - i < 32 by omega)]
  congr 1
  omega
/-- One word of the words shifted. -/
def shW (U : List Nat) (off k : Nat) : Nat := (U.getD k 0 / 2 ^ off) ||| (U.getD (k + 1) 0 * 2 ^ (32 - off) % 4294967296)
def shTo (U : List Nat) (off i : Nat) : List Nat := (List.range i).map (shW U off) ++ U.drop i
theorem shTo_len (U : List Nat) (off i nw : Nat) (h : U.length = nw) (hi : i ≤ nw) : (shTo U off i).length = nw := by simp [shTo, h]; omega
theorem shTo_set (U : List Nat) (off i nw : Nat) (h : U.length = nw) (hi : i < nw) : (shTo U off i).set i (shW U off i) = shTo U off (i + 1) := by
  unfold shTo
  rw [List.set_append_right _ _ (by simp), List.range_succ, List.map_append, List.append_assoc]
  congr 1
  simp only [List.length_map, List.length_range, Nat.sub_self, List.map_cons, List.map_nil]
  rw [List.drop_eq_getElem_cons (by omega), List.set_cons_zero]
  rfl
theorem shTo_at (U : List Nat) (off i k nw : Nat) (h : U.length = nw) (hik : i ≤ k) : (shTo U off i).getD k 0 = U.getD k 0 := by
  unfold shTo
  rw [getD_app, if_neg (by simp; omega)]
  simp only [List.length_map, List.length_range, List.getD, List.getElem?_drop]
  rw [show i + (k - i) = k from by omega]
/-- The words shifted. -/
def shAll (U : List Nat) (off nw : Nat) : List Nat := (shTo U off (nw - 1)).set (nw - 1) (U.getD (nw - 1) 0 / 2 ^ off)
theorem shAll_at (U : List Nat) (off nw k : Nat) (h : U.length = nw) (hk : k < nw) : (shAll U off nw).getD k 0 = if k = nw - 1 then U.getD (nw - 1) 0 / 2 ^ off else shW U off k := by
  unfold shAll
  rw [getD_set2 _ _ _ _ (by rw [shTo_len U off (nw - 1) nw h (by omega)]; omega)]
  split
  · rfl
  · unfold shTo
    rw [getD_app, if_pos (by simp; omega)]
    simp [List.getD, List.getElem?_range (show k < nw - 1 by omega)]
theorem shW_lt (U : List Nat) (off k : Nat) (h : ∀ k, U.getD k 0 < 4294967296) : shW U off k < 4294967296 :=
  Nat.or_lt_two_pow (n := 32) (Nat.lt_of_le_of_lt (Nat.div_le_self _ _) (h k)) (Nat.mod_lt _ (by decide))
theorem sh_bit (U : List Nat) (off nw k i : Nat) (B : Nat → Bool) (hl : U.length = nw) (hlt : ∀ k, U.getD k 0 < 4294967296) (hB : ∀ k i, k < nw → i < 32 → (U.getD k 0).testBit i = B (32 * k + i)) (ho : 0 < off) (ho2 : off < 32) (hk : k < nw) (hi : i < 32) :
    ((shAll U off nw).getD k 0).testBit i = if 32 * k + i + off < 32 * nw then B (32 * k + i + off) else false := by
  have hbig : ∀ k i, 32 ≤ i → (U.getD k 0).testBit i = false := fun k i hi2 => Nat.testBit_lt_two_pow (Nat.lt_of_lt_of_le (show U.getD k 0 < 2 ^ 32 from hlt k) (Nat.pow_le_pow_right (by omega) hi2))
  rw [shAll_at U off nw k hl hk]
  split
  · rename_i hkn
    rw [Nat.testBit_div_two_pow, ← hkn]
    rcases Nat.lt_or_ge (i + off) 32 with h1 | h1
    · rw [hB k _ hk h1, if_pos (by omega), Nat.add_assoc]
    · rw [hbig _ _ h1, if_neg (by omega)]
  · unfold shW
    rw [Nat.testBit_or, Nat.testBit_div_two_pow, show (4294967296 : Nat) = 2 ^ 32 from rfl, Nat.testBit_mod_two_pow, Nat.testBit_mul_two_pow]
    rcases Nat.lt_or_ge (i + off) 32 with h1 | h1
    · rw [hB k _ hk h1, if_pos (by omega), show (decide (32 - off ≤ i)) = false from decide_eq_false (by omega)]
      simp only [Bool.false_and, Bool.and_false, Bool.or_false]
      rw [Nat.add_assoc]
    · rw [hbig _ _ h1, if_pos (by omega), show (decide (32 - off ≤ i)) = true from decide_eq_true (by omega), show (decide (i < 32)) = true from decide_eq_true hi, hB (k + 1) _ (by omega) (by omega)]
      simp only [Bool.true_and, Bool.false_or]
      congr 1
      omega
/-- Turned round. -/
def turnB (B : Nat → Bool) (n : Nat) : Nat → Bool := fun x => if x < n then B (n - 1 - x) else false
theorem turn_full {ws : List Nat} {n nw : Nat} {B : Nat → Bool} (h : Shows nw 1 ws (fun x _ => B x)) (hn : n = 32 * nw) : Shows nw 1 (turnTo ws nw nw) (fun x _ => turnB B n x) := by
  have hl : ws.length = nw := by rw [h.len, Nat.mul_one]
  refine Shows.mk1 (B := turnB B n) (turnTo_len ws nw nw hl (Nat.le_refl _)) (fun k => turn_lt ws nw k hl) (fun k i hk hi => ?_)
  rw [turn_bit h hk hi]
  unfold turnB
  rw [if_pos (by omega), hn]
theorem turn_part {ws : List Nat} {n nw off : Nat} {B : Nat → Bool} (h : Shows nw 1 ws (fun x _ => B x)) (hn : n + off = 32 * nw) (ho : 0 < off) (ho2 : off < 32) : Shows nw 1 (shAll (turnTo ws nw nw) off nw) (fun x _ => turnB B n x) := by
  have hl : ws.length = nw := by rw [h.len, Nat.mul_one]
  have hU := turnTo_len ws nw nw hl (Nat.le_refl _)
  have hlt := fun k => turn_lt ws nw k hl
  refine Shows.mk1 (B := turnB B n) ?_ (fun k => ?_) (fun k i hk hi => ?_)
  · unfold shAll
    rw [List.length_set, shTo_len _ off (nw - 1) nw hU (by omega)]
  · rcases Nat.lt_or_ge k nw with h1 | h1
    · rw [shAll_at _ off nw k hU h1]
      split
      · exact Nat.lt_of_le_of_lt (Nat.div_le_self _ _) (hlt _)
      · exact shW_lt _ off k hlt
    · rw [List.getD, List.getElem?_eq_none (by unfold shAll; rw [List.length_set, shTo_len _ off (nw - 1) nw hU (by omega)]; exact h1)]
      decide
  · rw [sh_bit _ off nw k i (fun x => B (32 * nw - 1 - x)) hU hlt (fun k i hk hi => turn_bit h hk hi) ho ho2 hk hi]
    unfold turnB
    by_cases h1 : 32 * k + i < n
    · rw [if_pos (by omega), if_pos h1]
      congr 1
      omega
    · rw [if_neg (by omega), if_neg h1]

/-- The array turned round, its words in new memory. -/
def TurnOut (q n nw : Nat) (B : Nat → Bool) (w : World) (e : Ending) (w' : World) : Prop :=
  e = .returned (.tuple #[]) ∧ (∃ g' ws', g' < w'.heap.size ∧ IsBA w' q g' n nw ws' (turnB B n)) ∧ ∀ C, C ≤ q → C ≤ w.heap.size → Below C w w'

set_option maxRecDepth 20000 in
set_option maxHeartbeats 8000000 in
theorem reverseArr (q g n nw : Nat) (ws : List Nat) (B : Nat → Bool) (w : World) (h : IsBA w q g n nw ws B) (hg : g < w.heap.size) (hn1 : 1 ≤ n) (hn : n ≤ 200) (hnw : nw ≤ 7) :
    Calls Try.prog 35 #[.pointer (some ⟨q, 0, none⟩)] w (TurnOut q n nw B w) := by
  obtain ⟨i4, hi4, hb0, hb1, hb2⟩ := info_of infoU
  have hmk := fun W => run_make (P := Try.prog) W 40 42 i4 (.int .u32 0) Try.underlying40 hi4 hb0 .i64 .i64 (nw : Int) (nw : Int) (by omega) (by omega) (by rw [hb2]; omega) (by omega)
  simp only [hb1] at hmk
  obtain ⟨c0, c1⟩ := h.facts
  have hq : q < w.heap.size := h.st.lt
  have hwr := h.wr
  have hrw := h.rw_
  have hwl : ws.length = nw := by rw [h.sh.len, Nat.mul_one]
  have HM := hid h
  have HF := hid (fun (w' : World) (hw : Below w.heap.size w w') => (h.below hw hq hg).facts)
  have HC := hid (fun (w' : World) (hw : Below w.heap.size w w') (k : Nat) (hk : k < nw) => u32s_at (h.below hw hq hg).bits k (by rw [hwl]; exact hk))
  have HWL := hid hwl
  have HST := hid (fun (w' : World) (hw : Below w.heap.size w w') => (h.below hw hq hg).st)
  have e1 : ((n : Int) - 1) / 32 = ((nw - 1 : Nat) : Int) := by omega
  clear h hwl
  obtain ⟨L, hL⟩ : ∃ L, L = nw - 1 := ⟨_, rfl⟩
  rw [← hL] at e1
  have hnL1 : nw ≤ L + 1 := by omega
  have hnL2 : L + 1 ≤ nw := by omega
  clear hL
  go_enter Try.func35, Try.ntmps35
  go_wp2_with fail
  simp only [e1]
  clear e1
  have HA := hid (Arr.made w 42 (.int .u32 0) nw)
  have HB := hid (show Below w.heap.size w (w.alloc (.cells (madeCells #[.int .u32 0] nw) 42)) from (Below.refl _ _).alloc (Nat.le_refl _) _)
  have hgs : w.heap.size < (w.alloc (.cells (madeCells #[.int .u32 0] nw) 42)).heap.size := by simp
  generalize w.alloc (.cells (madeCells #[.int .u32 0] nw) 42) = w1 at *
  clear hmk
  go_loopw [5] (fun iv wr => ∃ i : Nat, i ≤ nw ∧ iv = .int .i64 (i : Nat) ∧ Arr wr w.heap.size 42 (u32s (turnTo ws nw i)) ∧ Below w.heap.size w wr) (fun iv _ => nw - (intOf iv).toNat)
  case atStart => exact ⟨0, by omega, rfl, by simpa [turnTo, u32s] using HA.out, HB.out⟩
  case round =>
    clear HA HB
    obtain ⟨i, hi, rfl, hA, hB⟩ := hrel
    obtain ⟨c0, c1⟩ := HF.out wr hB
    have HA := hid hA
    have HB := hid hB
    clear hA hB
    by_cases hlt : i < nw
    · have hlt' : (i : Int) < (L : Int) + 1 := by omega
      have ck := HC.out wr HB.out i hlt
      have hvl := HM.out.sh.lt i
      have rv := fun W => reverse32 (ws.getD i 0) W hvl
      have HS := hid (turnTo_set ws nw i HWL.out hlt)
      have i1 : (0 : Int) ≤ (L : Int) - (i : Int) := by omega
      have i2 : (L : Int) - (i : Int) < (nw : Int) := by omega
      have i3 : ((L : Int) - (i : Int)).toNat = L - i := by omega
      have i4 : (i : Int) < (nw : Int) := by omega
      have htl := turnTo_len ws nw i HWL.out hi
      obtain ⟨v1, hv1⟩ := HA.out.has (L - i) (by rw [u32s_len, htl]; omega)
      have fz := HA.out.frozen (L - i)
      rw [show nw - 1 - i = L - i from by omega] at HS
      clear htl
      generalize rev32 (ws.getD i 0) = rv2 at *
      generalize ws.getD i 0 = wd at *
      go_wp2_with fail
      refine (rv _).mono ?_
      rintro e w5 ⟨rfl, rfl⟩
      clear rv
      go_wp2_with fail
      go_roundw
      case rel =>
        refine ⟨i + 1, by omega, by go_num, ?_, HB.out.setCell (by simp) _⟩
        rw [← HS.out, ← u32s_set]
        exact HA.out.set _ _
      case measure => simp [intOf]; omega
    · obtain rfl : i = nw := by omega
      have hlt' : ¬ (i : Int) < (L : Int) + 1 := by omega
      have hUl := turnTo_len ws i i HWL.out (Nat.le_refl _)
      have hULt := fun k => turn_lt ws i k HWL.out
      have HUL := hid hUl
      have HULT := hid hULt
      have HFULL := hid (fun (hh : n = 32 * i) => turn_full HM.out.sh hh)
      have HPART := hid (fun (off : Nat) (h1 : n + off = 32 * i) h2 h3 => turn_part (off := off) HM.out.sh h1 h2 h3)
      generalize turnTo ws i i = U at *
      clear hUl hULt
      have HEND := hid (show ∀ W V, Below w.heap.size w W → Arr W w.heap.size 42 (u32s V) → Shows i 1 V (fun x _ => turnB B n x) → TurnOut q n i B w (.returned (.tuple #[])) (W.setCell ⟨q, 0, none⟩ (.slice (some ⟨w.heap.size, 0, none⟩) i i)) from fun W V hW hV hS =>
        ⟨rfl, ⟨w.heap.size, V, by rw [World.size_setCell]; exact hV.lt, ⟨(HST.out W hW).set 0 _, hV.far (by simp; omega) _, hS, by omega, hwr, hrw⟩⟩, fun C h1 h2 => (hW.mono h2).setCell (by simpa using h1) _⟩)
      have fzq := (HST.out wr HB.out).frozen 0
      by_cases hfull : n = 32 * i
      · have HSH := hid (HFULL.out hfull)
        have hnb : ((n : Int) != ((L : Int) + 1) * 32) = false := by simp; omega
        clear hfull
        go_wp2_with fail
        go_end0
        exact HEND.out wr U HB.out HA.out HSH.out
      · obtain ⟨off, hoff⟩ : ∃ off, n + off = 32 * i := ⟨32 * i - n, by omega⟩
        have ho1 : 0 < off := by omega
        have ho2 : off < 32 := by omega
        have HSH := hid (HPART.out off hoff ho1 ho2)
        have hnb : ((n : Int) != ((L : Int) + 1) * 32) = true := by simp; omega
        have hof : ((L : Int) + 1) * 32 - (n : Int) = (off : Int) := by omega
        have hi0 : (0 : Int) < (i : Int) := by omega
        have cU := hid (fun W V (hV : Arr W w.heap.size 42 (u32s V)) k (hk : k < V.length) => u32s_at hV k hk)
        have ck0 := cU.out wr U HA.out 0 (by rw [HUL.out]; omega)
        have q1 : ∀ k, ((U.getD k 0 : Nat) : Int) / 2 ^ off = ((U.getD k 0 / 2 ^ off : Nat) : Int) := fun k => by rw [Int.natCast_ediv, Int.natCast_pow]; rfl
        have HQ := hid q1
        have q10 := q1 0
        clear hfull q1 HFULL HPART
        generalize hu0 : U.getD 0 0 = u0 at *
        generalize hc0 : u0 / 2 ^ off = cu0 at *
        have HU0 := hid hu0
        have HC0 := hid hc0
        clear hu0 hc0
        go_wp2_with fail
        go_loopw [7, 8] (fun cv jv wr => ∃ j : Nat, 1 ≤ j ∧ j ≤ i ∧ jv = .int .i64 (j : Nat) ∧ cv = .int .u32 (U.getD (j - 1) 0 / 2 ^ off : Nat) ∧ Arr wr w.heap.size 42 (u32s (shTo U off (j - 1))) ∧ Below w.heap.size w wr) (fun _ jv _ => i - (intOf jv).toNat)
        case atStart => exact ⟨1, by omega, by omega, rfl, by rw [← HC0.out, ← HU0.out], by have := HA.out; simpa [shTo] using this, HB.out⟩
        case round =>
          clear HA HB fzq ck0 c0 c1
          obtain ⟨j, hj1, hj2, rfl, rfl, hA, hB⟩ := hrel
          obtain ⟨c0, c1⟩ := HF.out wr hB
          have fzq := (HST.out wr hB).frozen 0
          have HA := hid hA
          have HB := hid hB
          clear hA hB
          have hVl := shTo_len U off (j - 1) i HUL.out (by omega)
          have fz := HA.out.frozen (j - 1)
          obtain ⟨v1, hv1⟩ := HA.out.has (j - 1) (by rw [u32s_len, hVl]; omega)
          by_cases hlt : j < i
          · have hlt' : (j : Int) < (L : Int) + 1 := by omega
            have hji : (j : Int) < (i : Int) := by omega
            have ckj := cU.out wr _ HA.out j (by rw [hVl]; exact hlt)
            rw [shTo_at U off (j - 1) j i HUL.out (by omega)] at ckj
            have HS := hid (shTo_set U off (j - 1) i HUL.out (by omega))
            rw [show j - 1 + 1 = j from by omega] at HS
            have hor : bits .or .u32 ((U.getD (j - 1) 0 / 2 ^ off : Nat) : Int) ((U.getD j 0 : Nat) * 2 ^ (32 - off) % 4294967296) = ((shW U off (j - 1) : Nat) : Int) := by
              have e : (((U.getD j 0 : Nat) : Int) * 2 ^ (32 - off) % 4294967296) = ((U.getD j 0 * 2 ^ (32 - off) % 4294967296 : Nat) : Int) := by
                rw [Int.natCast_emod, Int.natCast_mul, Int.natCast_pow]; rfl
              rw [e, u32_or_nat _ _ (Nat.lt_of_le_of_lt (Nat.div_le_self _ _) (HULT.out _)) (Nat.mod_lt _ (by decide))]
              unfold shW
              rw [show j - 1 + 1 = j from by omega]
            have q1 := HQ.out j
            have i1 : (0 : Int) ≤ (j : Int) - 1 := by omega
            have i2 : (j : Int) - 1 < (i : Int) := by omega
            have i3 : ((j : Int) - 1).toNat = j - 1 := by omega
            have i4 : ((32 : Int) - (off : Int)).toNat = 32 - off := by omega
            have hcl : U.getD (j - 1) 0 / 2 ^ off < 4294967296 := Nat.lt_of_le_of_lt (Nat.div_le_self _ _) (HULT.out _)
            clear hVl
            generalize shW U off (j - 1) = sw at *
            generalize hcj : U.getD j 0 / 2 ^ off = cj at *
            have HCJ := hid hcj
            clear hcj
            generalize U.getD (j - 1) 0 / 2 ^ off = cp at *
            generalize hujj : U.getD j 0 = uj at *
            have HUJ := hid hujj
            clear hujj
            go_wp2_with fail
            go_roundw
            case rel =>
              refine ⟨j + 1, by omega, by omega, by go_num, ?_, ?_, HB.out.setCell (by simp) _⟩
              · rw [show j + 1 - 1 = j from by omega, HUJ.out, HCJ.out]
              · rw [show j + 1 - 1 = j from by omega, ← HS.out, ← u32s_set]
                exact HA.out.set _ _
            case measure => simp [intOf]; omega
          · obtain rfl : j = i := by omega
            have hlt' : ¬ (j : Int) < (L : Int) + 1 := by omega
            have i2 : (L : Int) < (j : Int) := by omega
            have hjL : j - 1 = L := by omega
            rw [hjL] at fz hv1
            have HS := hid (show (u32s (shTo U off (j - 1))).set L (.int .u32 (U.getD (j - 1) 0 / 2 ^ off : Nat)) = u32s (shAll U off j) from by rw [u32s_set]; unfold shAll; rw [hjL])
            clear hVl hjL
            generalize hcp : U.getD (j - 1) 0 / 2 ^ off = cp at *
            clear hcp
            go_wp2_with fail
            go_end0
            refine HEND.out _ (shAll U off j) (HB.out.setCell (Nat.le_refl _) _) ?_ HSH.out
            rw [← HS.out]
            exact HA.out.set _ _
end Go.Proofs.Ytmaghlckgfihcaa
