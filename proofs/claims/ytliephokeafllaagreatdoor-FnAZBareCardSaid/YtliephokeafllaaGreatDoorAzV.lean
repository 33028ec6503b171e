/- The bits that stuffed words say, the reader at the ones behind a message, and the modules that layers have. Plain. -/
import Derived.Test.YtliephokeafllaaGreatDoorAzR
import Derived.Test.YtliephokeafllaaGreatDoorAzS
import Derived.Test.YtliephokeafllaaGreatDoorAzP
namespace Go.Proofs.YtliephokeafllaaGreatDoor

/-- Bits of words, the stuffed ones left out. -/
def unstW (w x : Nat) : List Bool := if x = 1 ∨ x = 2 ^ w - 2 then List.replicate (w - 1) (decide (1 < x)) else putBits x w
def unst (w : Nat) (l : List Nat) : List Bool := (l.map (unstW w)).flatten
def extB (b : List Bool) (i n : Nat) : List Bool := (List.range n).map fun j => b.getD (i + j) true
theorem putBits_two (v c : Nat) (hc : c ≤ 1) : ∀ n, putBits (2 * v + c) (n + 1) = putBits v n ++ [c == 1]
  | 0 => by
    have : c = 0 ∨ c = 1 := by omega
    rcases this with rfl | rfl <;> simp [putBits] <;> omega
  | n + 1 => by
    have ih := putBits_two v c hc n
    rw [putBits, ih, putBits, List.cons_append]
    congr 2
    have : (2 * v + c) / 2 ^ (n + 1) = v / 2 ^ n := by
      rw [show 2 ^ (n + 1) = 2 * 2 ^ n from by rw [Nat.pow_succ]; omega, ← Nat.div_div_eq_div_mul, show (2 * v + c) / 2 = v by omega]
    rw [this]
theorem hi_bits (b : List Bool) (i : Nat) : ∀ n, putBits (hiAt b i n) n = extB b i n
  | 0 => rfl
  | n + 1 => by
    rw [hiAt, putBits_two _ _ (by split <;> omega), hi_bits b i n]
    unfold extB
    rw [List.range_succ, List.map_append]
    congr 1
    simp only [List.map_cons, List.map_nil]
    cases b.getD (i + n) true <;> rfl
theorem putBits_zero : ∀ n, putBits 0 n = List.replicate n false
  | 0 => rfl
  | n + 1 => by rw [putBits, putBits_zero n, List.replicate_succ]; simp
theorem putBits_ones (m : Nat) : ∀ n, n ≤ m → putBits (2 ^ m - 1) n = List.replicate n true
  | 0, _ => rfl
  | n + 1, h => by
    rw [putBits, putBits_ones m n (by omega), List.replicate_succ]
    congr 1
    have := Nat.testBit_two_pow_sub_one m n
    rw [Nat.testBit_eq_decide_div_mod_eq] at this
    have h2 : decide (n < m) = true := decide_eq_true (by omega)
    rw [h2] at this
    have := of_decide_eq_true this
    simp [this]
theorem stuff_word (b : List Bool) {w : Nat} (i : Nat) (hw : 3 ≤ w) : unstW w (stuffW b w i) = extB b i (stuffI b w i - i) := by
  obtain ⟨m, rfl⟩ : ∃ m, w = m + 1 := ⟨w - 1, by omega⟩
  have h4 : 4 ≤ 2 ^ m := by
    have := Nat.pow_le_pow_right (n := 2) (by omega) (show 2 ≤ m by omega)
    simpa using this
  have e : 2 ^ (m + 1) = 2 * 2 ^ m := by rw [Nat.pow_succ]; omega
  have hlt := hiAt_lt b i m
  have hb := hi_bits b i m
  unfold unstW stuffW stuffI
  rw [e, Nat.add_sub_cancel]
  by_cases h0 : hiAt b i m = 0
  · rw [if_pos h0, if_pos h0, if_pos (.inl rfl), Nat.add_sub_cancel_left, ← hb, h0, putBits_zero]
    rfl
  · rw [if_neg h0, if_neg h0]
    by_cases h1 : hiAt b i m = 2 ^ m - 1
    · rw [if_pos h1, if_pos h1, if_pos (.inr (by omega)), Nat.add_sub_cancel_left, ← hb, h1, putBits_ones m m (Nat.le_refl _), decide_eq_true (by omega)]
    · rw [if_neg h1, if_neg h1]
      have hc : (if b.getD (i + m) true = true then 1 else 0) ≤ 1 := by split <;> omega
      rw [if_neg (by omega), show i + m + 1 - i = m + 1 by omega, ← hi_bits b i (m + 1)]
      rfl
theorem extB_add (b : List Bool) (n m : Nat) : extB b 0 (n + m) = extB b 0 n ++ extB b n m := by
  unfold extB
  rw [List.range_add, List.map_append, List.map_map]
  congr 1
  apply List.map_congr_left
  intro j _
  simp
theorem unst_app (w : Nat) (l : List Nat) (x : Nat) : unst w (l ++ [x]) = unst w l ++ unstW w x := by simp [unst]
theorem unst_to (b : List Bool) {w : Nat} (hw : 3 ≤ w) : ∀ t, unst w (stuffTo b w t).1 = extB b 0 (stuffTo b w t).2
  | 0 => rfl
  | t + 1 => by
    have h := (stuffI_lt b (w := w) (stuffTo b w t).2).1
    rw [stuffTo]
    simp only
    rw [unst_app, unst_to b hw t, stuff_word b _ hw]
    rw [show stuffI b w (stuffTo b w t).2 = (stuffTo b w t).2 + (stuffI b w (stuffTo b w t).2 - (stuffTo b w t).2) by omega, extB_add]
    simp
theorem extB_ones (b : List Bool) (n : Nat) (h : b.length ≤ n) : extB b 0 n = b ++ List.replicate (n - b.length) true := by
  unfold extB
  apply List.ext_getElem
  · simp; omega
  · intro i h1 h2
    simp only [List.length_map, List.length_range] at h1
    simp only [List.getElem_map, List.getElem_range, Nat.zero_add]
    by_cases hi : i < b.length
    · rw [List.getElem_append_left hi, List.getD, List.getElem?_eq_getElem hi]; rfl
    · rw [List.getElem_append_right (by omega), List.getElem_replicate, List.getD, List.getElem?_eq_none (by omega)]; rfl
theorem unst_ones (b : List Bool) {w t : Nat} (hw : 3 ≤ w) (h : Stuffed b w t) (ht : 1 ≤ t) : ∃ k, k < w ∧ unst w (stuffTo b w t).1 = b ++ List.replicate k true := by
  obtain ⟨h1, h2⟩ := h
  refine ⟨(stuffTo b w t).2 - b.length, ?_, by rw [unst_to b hw, extB_ones b _ h1]⟩
  obtain ⟨u, rfl⟩ : ∃ u, t = u + 1 := ⟨t - 1, by omega⟩
  have h3 := h2 u (by omega)
  have h4 := (stuffI_lt b (w := w) (stuffTo b w u).2).2
  rw [stuffTo]
  simp only
  omega
/-- No stuffed word is all zeros or all ones. -/
theorem stuffW_in (b : List Bool) {w : Nat} (i : Nat) (hw : 3 ≤ w) : stuffW b w i ≠ 0 ∧ stuffW b w i ≠ 2 ^ w - 1 := by
  obtain ⟨m, rfl⟩ : ∃ m, w = m + 1 := ⟨w - 1, by omega⟩
  have h4 : 4 ≤ 2 ^ m := by
    have := Nat.pow_le_pow_right (n := 2) (by omega) (show 2 ≤ m by omega)
    simpa using this
  have e : 2 ^ (m + 1) = 2 * 2 ^ m := by rw [Nat.pow_succ]; omega
  have hlt := hiAt_lt b i m
  have hc : (if b.getD (i + m) true = true then 1 else 0) ≤ 1 := by split <;> omega
  unfold stuffW
  rw [e, Nat.add_sub_cancel]
  by_cases h0 : hiAt b i m = 0
  · rw [if_pos h0]; omega
  · rw [if_neg h0]
    by_cases h1 : hiAt b i m = 2 ^ m - 1
    · rw [if_pos h1]; omega
    · rw [if_neg h1]; omega
theorem stuffTo_in (b : List Bool) {w : Nat} (hw : 3 ≤ w) : ∀ t, ∀ x ∈ (stuffTo b w t).1, x ≠ 0 ∧ x ≠ 2 ^ w - 1
  | 0, x, h => by cases h
  | t + 1, x, h => by
    rcases List.mem_append.1 h with h | h
    · exact stuffTo_in b hw t x h
    · rw [List.mem_singleton.1 h]; exact stuffW_in b _ hw

/-- Ones behind a message say nothing. -/
theorem ones_code (b : List Bool) (k i : Nat) (h : b.length ≤ i) : ∀ n, i + n ≤ b.length + k → codeAt (b ++ List.replicate k true) i n = 2 ^ n - 1
  | 0, _ => rfl
  | n + 1, hn => by
    have e : (b ++ List.replicate k true).getD (i + n) false = true := by
      rw [List.getD, List.getElem?_append_right (by omega), List.getElem?_replicate, if_pos (by omega)]; rfl
    have h2 : 1 ≤ 2 ^ n := Nat.one_le_two_pow
    rw [codeAt, ones_code b k i h n (by omega), e, Nat.pow_succ]
    simp only [if_true]
    omega
theorem ones_len (b : List Bool) (k : Nat) : (b ++ List.replicate k true).length = b.length + k := by simp
theorem ones_bin (b : List Bool) (k i l : Nat) (X : List Nat) (h : b.length ≤ i) (hk : b.length + k < i + 13) : Runs (b ++ List.replicate k true) X i l 5 X := by
  have hl := ones_len b k
  by_cases h0 : b.length + k ≤ i
  · exact Runs.done _ _ _ (by omega)
  by_cases h1 : b.length + k < i + 5
  · exact Runs.short5 _ _ (by omega) (by omega)
  · exact Runs.cut i l 31 (by omega) (by rw [ones_code b k i h 5 (by omega)]) (by decide) (by omega)
theorem ones_up (b : List Bool) (k i l s : Nat) (X : List Nat) (h : b.length ≤ i) (hs : s = 0 ∨ s = 1 ∨ s = 2) (hk : b.length + k < i + 18) : Runs (b ++ List.replicate k true) X i l s X := by
  have hl := ones_len b k
  have hz : rdSize s = 5 := by rcases hs with rfl | rfl | rfl <;> rfl
  by_cases h0 : b.length + k ≤ i
  · exact Runs.done _ _ _ (by omega)
  by_cases h1 : b.length + k < i + 5
  · exact Runs.short _ _ _ (by omega) (by omega) (by rw [hz]; omega)
  · refine Runs.shift i l s X 66 (by omega) (by rw [hz]; omega) ?_ ?_
    · rw [hz, ones_code b k i h 5 (by omega)]
      rcases hs with rfl | rfl | rfl <;> rfl
    · rw [hz]
      exact ones_bin b k (i + 5) s X (by omega) (by omega)
theorem ones_runs (b : List Bool) (k l : Nat) (X : List Nat) (hl4 : l ≤ 4) (hk : k ≤ 11) : Runs (b ++ List.replicate k true) X b.length l l X := by
  have hl := ones_len b k
  by_cases h2 : l ≤ 2
  · exact ones_up b k b.length l l X (Nat.le_refl _) (by omega) (by omega)
  · by_cases h3 : l = 3
    · subst h3
      by_cases h0 : k = 0
      · exact Runs.done _ _ _ (by omega)
      by_cases h1 : k < 4
      · exact Runs.short _ _ _ (by omega) (by omega) (by show _ < _ + 4; omega)
      · refine Runs.shift _ 3 3 X 85 (by omega) (by show _ + 4 ≤ _; omega) ?_ ?_
        · show List.getD _ (codeAt _ _ 4) _ = _
          rw [ones_code b k _ (Nat.le_refl _) 4 (by omega)]; rfl
        · exact ones_up b k _ 3 0 X (by omega) (.inl rfl) (by omega)
    · obtain rfl : l = 4 := by omega
      by_cases h0 : k = 0
      · exact Runs.done _ _ _ (by omega)
      by_cases h1 : k < 5
      · exact Runs.short _ _ _ (by omega) (by omega) (by show _ < _ + 5; omega)
      · refine Runs.latch _ 4 4 X 85 (by omega) (by show _ + 5 ≤ _; omega) ?_ (by decide) ?_
        · show List.getD _ (codeAt _ _ 5) _ = _
          rw [ones_code b k _ (Nat.le_refl _) 5 (by omega)]; rfl
        · exact ones_up b k _ 0 0 X (by omega) (.inl rfl) (by omega)
theorem said_ones (code : List Nat) (j k : Nat) (hk : k ≤ 11) : Runs ((azRun ⟨[], [], 0⟩ code j).bits ++ List.replicate k true) (azRun ⟨[], [], 0⟩ code j).text 0 0 0 [] := by
  have hm := run_mode code ⟨[], [], 0⟩ (Nat.zero_le 4) j
  exact run_runs (b := (azRun ⟨[], [], 0⟩ code j).bits ++ List.replicate k true) (X := (azRun ⟨[], [], 0⟩ code j).text) code ⟨[], [], 0⟩ (Nat.zero_le 4) j ⟨_, rfl⟩ (ones_runs _ k _ _ (rdOf_le hm) hk)

/-- How far a module is from the edge. -/
def azEdge (S u v : Nat) : Nat := min (min u (S - 1 - u)) (min v (S - 1 - v))
theorem azEdge_in {c : Bool} {L i k j n : Nat} (h : AzIn c L i k j n) : azEdge (azSide c L) (azU c L i k j n) (azV c L i k j n) < 2 * L := by
  have h1 := azLong_side (c := c) h.hi
  have h2 := h.hi
  have h3 := h.hn
  have h4 := h.hj
  unfold azEdge
  rcases four h.hk with rfl | rfl | rfl | rfl <;> simp only [azU, azV] <;> omega
/-- The modules of layers among the first t are told. -/
def UsedTo (c : Bool) (L : Nat) (t : Nat) (G : Nat → Nat → Bool) : Prop :=
  ∀ u v, u < azSide c L → v < azSide c L → v * azSide c L + u < t → azEdge (azSide c L) u v < 2 * L → G (azPl c L v) (azPl c L u) = true
theorem UsedTo.zero (c : Bool) (L : Nat) (G : Nat → Nat → Bool) : UsedTo c L 0 G := fun _ _ _ _ h => by omega
theorem UsedTo.next {c : Bool} {L u v : Nat} {G : Nat → Nat → Bool} (hu : u < azSide c L) (hv : v < azSide c L) (hG : UsedTo c L (v * azSide c L + u) G) :
    UsedTo c L (v * azSide c L + u + 1) (putG G (azPl c L v) (azPl c L u) (decide (azEdge (azSide c L) u v < 2 * L))) := by
  intro u' v' hu' hv' hlt he
  unfold putG
  by_cases e : azPl c L v' = azPl c L v ∧ azPl c L u' = azPl c L u
  · rw [if_pos e]
    obtain rfl := azPl_inj hv' hv e.1
    obtain rfl := azPl_inj hu' hu e.2
    exact decide_eq_true he
  · rw [if_neg e]
    refine hG u' v' hu' hv' ?_ he
    rcases Nat.lt_or_ge (v' * azSide c L + u') (v * azSide c L + u) with h | h
    · exact h
    · have h5 : v' * azSide c L + u' = v * azSide c L + u := by omega
      exfalso
      apply e
      have hv2 : v' = v := by
        have h6 : (v' * azSide c L + u') / azSide c L = v' := by rw [Nat.mul_comm, Nat.mul_add_div (by omega), Nat.div_eq_of_lt hu', Nat.add_zero]
        have h7 : (v * azSide c L + u) / azSide c L = v := by rw [Nat.mul_comm, Nat.mul_add_div (by omega), Nat.div_eq_of_lt hu, Nat.add_zero]
        rw [← h6, ← h7, h5]
      subst hv2
      obtain rfl : u' = u := by omega
      exact ⟨rfl, rfl⟩
/-- What is put where no layer is changes no bit. -/
theorem LaidTo.bare {c : Bool} {L : Nat} {b : List Bool} {t y x : Nat} {G U : Nat → Nat → Bool} {v : Bool} (h : LaidTo c L b t G) (hU : UsedTo c L (azSide c L * azSide c L) U) (hn : U y x = false) : LaidTo c L b t (putG G y x v) := by
  intro i k j n hI hlt
  unfold putG
  rw [if_neg, h i k j n hI hlt]
  rintro ⟨e1, e2⟩
  have h1 := azU_lt hI
  have h2 := azV_lt hI
  have := hU _ _ h1 h2 (by
    have : (azV c L i k j n + 1) * azSide c L ≤ azSide c L * azSide c L := Nat.mul_le_mul_right _ h2
    rw [Nat.succ_mul] at this
    omega) (azEdge_in hI)
  have e3 : U y x = true := by
    rw [← e1, ← e2]
    exact this
  rw [hn] at e3
  cases e3
end Go.Proofs.YtliephokeafllaaGreatDoor
