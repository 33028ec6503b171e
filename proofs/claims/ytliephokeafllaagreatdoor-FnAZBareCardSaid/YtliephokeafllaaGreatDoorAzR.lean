/- What the reader of an Aztec message does with the bits that the writer wrote. Plain. -/
import Derived.Test.YtliephokeafllaaGreatDoorAzL
namespace Go.Proofs.YtliephokeafllaaGreatDoor

/-- The number in n bits from i on. -/
def codeAt (b : List Bool) (i : Nat) : Nat → Nat
  | 0 => 0
  | n + 1 => 2 * codeAt b i n + (if b.getD (i + n) false then 1 else 0)
def bytesAt (b : List Bool) (i : Nat) : Nat → List Nat
  | 0 => []
  | n + 1 => bytesAt b i n ++ [codeAt b (i + 8 * n) 8]

/-- CTRL_ and two letters more. -/
def ctl (a b : Nat) : List Nat := [67, 84, 82, 76, 95, a, b]
/-- The reader's tables: upper, lower, mixed, digits, punctuation. -/
def rdTab : Nat → List (List Nat)
  | 0 => ctl 80 83 :: [32] :: (one1 (upTo 65 26) ++ [ctl 76 76, ctl 77 76, ctl 68 76, ctl 66 83])
  | 1 => ctl 80 83 :: [32] :: (one1 (upTo 97 26) ++ [ctl 85 83, ctl 77 76, ctl 68 76, ctl 66 83])
  | 2 => ctl 80 83 :: [32] :: (one1 (upTo 1 13 ++ upTo 27 5 ++ [64, 92, 94, 95, 96, 124, 126, 127]) ++ [ctl 76 76, ctl 85 76, ctl 80 76, ctl 66 83])
  | 3 => ctl 80 83 :: [32] :: (one1 (upTo 48 10 ++ [44, 46]) ++ [ctl 85 76, ctl 85 83])
  | _ => [70, 76, 71, 40, 110, 41] :: [13] :: [13, 10] :: [46, 32] :: [44, 32] :: [58, 32] :: (one1 (upTo 33 15 ++ [58, 59, 60, 61, 62, 63, 91, 93, 123, 125]) ++ [ctl 85 76])
def rdSize (t : Nat) : Nat := if t = 3 then 4 else 5
def isCtl (s : List Nat) : Bool := s.take 5 == [67, 84, 82, 76, 95]
def isFlg (s : List Nat) : Bool := s == [70, 76, 71, 40, 110, 41]
def plainS (s : List Nat) : Bool := !isCtl s && !isFlg s
/-- The table of a letter. -/
def letTab (c : Nat) : Nat := if c = 76 then 1 else if c = 80 then 4 else if c = 77 then 2 else if c = 68 then 3 else if c = 66 then 5 else 0

/-- From a place, with a table to go back to, one for the next number, and what was read, the reader comes to the text X without an error. -/
inductive Runs (b : List Bool) (X : List Nat) : Nat → Nat → Nat → List Nat → Prop
  | done (i l s : Nat) : b.length ≤ i → Runs b X i l s X
  | short (i l s : Nat) : i < b.length → s ≤ 4 → b.length < i + rdSize s → Runs b X i l s X
  | short5 (i l : Nat) : i < b.length → b.length < i + 5 → Runs b X i l 5 X
  | char (i l s : Nat) (o c : List Nat) : s ≤ 4 → i + rdSize s ≤ b.length → c = (rdTab s).getD (codeAt b i (rdSize s)) [] → plainS c = true → l ≤ 4 → Runs b X (i + rdSize s) l l (o ++ c) → Runs b X i l s o
  | latch (i l s : Nat) (o : List Nat) (x : Nat) : s ≤ 4 → i + rdSize s ≤ b.length → (rdTab s).getD (codeAt b i (rdSize s)) [] = ctl x 76 → letTab x ≤ 4 → Runs b X (i + rdSize s) (letTab x) (letTab x) o → Runs b X i l s o
  | shift (i l s : Nat) (o : List Nat) (x : Nat) : s ≤ 4 → i + rdSize s ≤ b.length → (rdTab s).getD (codeAt b i (rdSize s)) [] = ctl x 83 → Runs b X (i + rdSize s) s (letTab x) o → Runs b X i l s o
  | few (i l n : Nat) (o : List Nat) : i + 5 ≤ b.length → n = codeAt b i 5 → n ≠ 0 → i + 5 + 8 * n ≤ b.length → l ≤ 4 → Runs b X (i + 5 + 8 * n) l l (o ++ bytesAt b (i + 5) n) → Runs b X i l 5 o
  | many (i l n : Nat) (o : List Nat) : i + 16 ≤ b.length → codeAt b i 5 = 0 → n = codeAt b (i + 5) 11 + 31 → i + 16 + 8 * n ≤ b.length → l ≤ 4 → Runs b X (i + 16 + 8 * n) l l (o ++ bytesAt b (i + 16) n) → Runs b X i l 5 o
  | cut (i l n : Nat) : i + 5 ≤ b.length → n = codeAt b i 5 → n ≠ 0 → b.length < i + 5 + 8 → Runs b X i l 5 X

/-- The bits c stand in b from p on. -/
def At (b : List Bool) (p : Nat) (c : List Bool) : Prop := ∃ r, b.drop p = c ++ r ∧ p + c.length ≤ b.length
theorem At.split {b : List Bool} {p : Nat} {c d : List Bool} (h : At b p (c ++ d)) : At b p c ∧ At b (p + c.length) d := by
  obtain ⟨r, h, hl⟩ := h
  rw [List.length_append] at hl
  refine ⟨⟨d ++ r, by rw [h, List.append_assoc], by omega⟩, r, ?_, by omega⟩
  rw [← List.drop_drop, h, List.append_assoc, List.drop_left']
  rfl
theorem At.get {b : List Bool} {p : Nat} {c : List Bool} (h : At b p c) {j : Nat} (hj : j < c.length) : b.getD (p + j) false = c.getD j false := by
  obtain ⟨r, h, hl⟩ := h
  have : b.getD (p + j) false = (b.drop p).getD j false := by simp [List.getD]
  rw [this, h]
  simp [List.getD, List.getElem?_append_left hj]
theorem At.le {b : List Bool} {p : Nat} {c : List Bool} (h : At b p c) : p + c.length ≤ b.length := by
  obtain ⟨_, _, h⟩ := h
  exact h
theorem At.mid (a c d : List Bool) : At (a ++ c ++ d) a.length c := by
  refine ⟨d, ?_, by simp⟩
  rw [List.append_assoc, List.drop_left']
  rfl

theorem codeAt_put {b : List Bool} {p : Nat} : ∀ k v, At b p (putBits v k) → (∀ j, j < k → b.getD (p + j) false = (v / 2 ^ (k - 1 - j) % 2 == 1)) := by
  intro k v h j hj
  rw [h.get (by rw [putBits_len]; exact hj)]
  have : ∀ k j, j < k → (putBits v k).getD j false = (v / 2 ^ (k - 1 - j) % 2 == 1) := by
    intro k
    induction k with
    | zero => intro j hj; omega
    | succ k ih =>
      intro j hj
      cases j with
      | zero => simp [putBits]
      | succ j =>
        have := ih j (by omega)
        rw [show k + 1 - 1 - (j + 1) = k - 1 - j from by omega, ← this]
        simp [putBits]
  exact this k j hj
theorem codeAt_num {b : List Bool} {p k v : Nat} (h : ∀ j, j < k → b.getD (p + j) false = (v / 2 ^ (k - 1 - j) % 2 == 1)) : ∀ n, n ≤ k → codeAt b p n = v / 2 ^ (k - n) % 2 ^ n := by
  intro n
  induction n with
  | zero => intro _; simp [codeAt, Nat.mod_one]
  | succ n ih =>
    intro hn
    rw [codeAt, ih (by omega), h n (by omega)]
    have e : v / 2 ^ (k - n) = v / 2 ^ (k - (n + 1)) / 2 := by rw [Nat.div_div_eq_div_mul, ← Nat.pow_succ]; congr 2; omega
    rw [e, show k - 1 - n = k - (n + 1) from by omega, Nat.pow_succ]
    generalize v / 2 ^ (k - (n + 1)) = u
    have h2 := Nat.mod_mul_left_mod u (2 ^ n) 2
    rw [Nat.mul_comm (2 ^ n) 2, Nat.mod_mul]
    rcases Nat.mod_two_eq_zero_or_one u with h0 | h0 <;> simp [h0] <;> omega
theorem codeAt_at {b : List Bool} {p v k : Nat} (h : At b p (putBits v k)) : codeAt b p k = v % 2 ^ k := by
  have := codeAt_num (codeAt_put k v h) k (Nat.le_refl _)
  rwa [Nat.sub_self, Nat.pow_zero, Nat.div_one] at this
theorem bytesAt_at {b : List Bool} : ∀ (n : Nat) (l : List Nat) (p : Nat), l.length = n → At b p (byteBits l) → bytesAt b p n = l.map (· % 128) := by
  have len8 : ∀ l : List Nat, (byteBits l).length = 8 * l.length := by
    intro l
    induction l with
    | nil => rfl
    | cons a l ih => simp only [byteBits, List.map_cons, List.flatten_cons, List.length_append, putBits_len, List.length_cons] at ih ⊢; omega
  intro n
  induction n with
  | zero => intro l p hl _; rw [List.eq_nil_of_length_eq_zero hl]; rfl
  | succ n ih =>
    intro l p hl h
    obtain ⟨l', a, rfl⟩ : ∃ l' a, l = l' ++ [a] := ⟨l.dropLast, l.getLast (by intro e; rw [e] at hl; simp at hl), (List.dropLast_concat_getLast _).symm⟩
    have hl' : l'.length = n := by simpa using hl
    have e : byteBits (l' ++ [a]) = byteBits l' ++ putBits (a % 128) 8 := by simp [byteBits]
    rw [e] at h
    obtain ⟨h1, h2⟩ := h.split
    rw [len8, hl'] at h2
    rw [bytesAt, ih l' p hl' h1, codeAt_at h2]
    simp only [List.map_append, List.map_cons, List.map_nil]
    congr 2
    omega
theorem byteBits_len (l : List Nat) : (byteBits l).length = 8 * l.length := by
  induction l with
  | nil => rfl
  | cons a l ih => simp only [byteBits, List.map_cons, List.flatten_cons, List.length_append, putBits_len, List.length_cons] at ih ⊢; omega

/-- The reader's table of a writer's mode. -/
def rdOf (m : Nat) : Nat := if m = 3 then 4 else if m = 4 then 3 else m
theorem rdOf_le {m : Nat} (h : m ≤ 4) : rdOf m ≤ 4 := by
  unfold rdOf
  split
  · omega
  · split <;> omega
theorem rdSize_of {m : Nat} (h : m ≤ 4) : rdSize (rdOf m) = azWidth m := by
  have : m = 0 ∨ m = 1 ∨ m = 2 ∨ m = 3 ∨ m = 4 := by omega
  rcases this with rfl | rfl | rfl | rfl | rfl <;> rfl
theorem say_fin : (List.range 5).all (fun m => (List.range (azTab m).length).all fun r =>
    let k := seek (azTab m) (azTab m).length r
    decide (k < 2 ^ azWidth m) && ((azTab m).getD k [] == (rdTab (rdOf m)).getD k []) && plainS ((azTab m).getD k [])) = true := by decide +kernel
theorem tab_len {m : Nat} (h : m ≤ 4) : (azTab m).length = 2 ^ azWidth m := by
  have : m = 0 ∨ m = 1 ∨ m = 2 ∨ m = 3 ∨ m = 4 := by omega
  rcases this with rfl | rfl | rfl | rfl | rfl <;> rfl
theorem say_ok (m n : Nat) (hm : m ≤ 4) : sayAt m n < 2 ^ azWidth m ∧ (azTab m).getD (sayAt m n) [] = (rdTab (rdOf m)).getD (sayAt m n) [] ∧ plainS ((azTab m).getD (sayAt m n) []) = true := by
  have h1 := List.all_eq_true.1 say_fin m (List.mem_range.2 (by omega))
  have h2 := List.all_eq_true.1 h1 (n % (azTab m).length) (List.mem_range.2 (Nat.mod_lt _ (by rw [tab_len hm]; exact Nat.two_pow_pos _)))
  simp only [Bool.and_eq_true, decide_eq_true_eq, beq_iff_eq] at h2
  exact ⟨h2.1.1, h2.1.2, h2.2⟩
theorem latch_fin : (List.range 5).all (fun m => (List.range (latchN m).length).all fun r =>
    let N := (latchN m).getD r 0
    let M := (latchM m).getD r 0
    decide (N < 2 ^ azWidth m) && decide (M ≤ 4) && (List.range 128).any fun x => decide (letTab x = rdOf M) && ((rdTab (rdOf m)).getD N [] == ctl x 76)) = true := by decide +kernel
theorem latch_ok (m n : Nat) (hm : m ≤ 4) : let r := n % (latchN m).length
    (latchN m).getD r 0 < 2 ^ azWidth m ∧ (latchM m).getD r 0 ≤ 4 ∧ ∃ x, letTab x = rdOf ((latchM m).getD r 0) ∧ (rdTab (rdOf m)).getD ((latchN m).getD r 0) [] = ctl x 76 := by
  intro r
  have hp : 0 < (latchN m).length := by
    have : m = 0 ∨ m = 1 ∨ m = 2 ∨ m = 3 ∨ m = 4 := by omega
    rcases this with rfl | rfl | rfl | rfl | rfl <;> decide
  have h1 := List.all_eq_true.1 latch_fin m (List.mem_range.2 (by omega))
  have h2 := List.all_eq_true.1 h1 r (List.mem_range.2 (Nat.mod_lt _ hp))
  simp only [Bool.and_eq_true, decide_eq_true_eq, beq_iff_eq, List.any_eq_true] at h2
  obtain ⟨⟨h3, h4⟩, x, _, h5, h6⟩ := h2
  exact ⟨h3, h4, x, h5, h6⟩

section
variable {b : List Bool} {X : List Nat}
/-- A character of a mode. -/
theorem runs_say {p m n : Nat} {o : List Nat} {l : Nat} (hm : m ≤ 4) (hl : l ≤ 4) (h : At b p (putBits (sayAt m n) (azWidth m))) (hr : Runs b X (p + azWidth m) l l (o ++ (azTab m).getD (sayAt m n) [])) : Runs b X p l (rdOf m) o := by
  obtain ⟨h1, h2, h3⟩ := say_ok m n hm
  have hle := h.le
  rw [putBits_len] at hle
  have hc := codeAt_at h
  rw [Nat.mod_eq_of_lt h1] at hc
  refine Runs.char p l (rdOf m) o _ (rdOf_le hm) (by rw [rdSize_of hm]; exact hle) rfl ?_ hl ?_
  · rw [rdSize_of hm, hc, ← h2]; exact h3
  · rw [rdSize_of hm, hc, ← h2]; exact hr
theorem runs_latch {p m n : Nat} {o : List Nat} {l : Nat} (hm : m ≤ 4) (h : At b p (putBits ((latchN m).getD (n % (latchN m).length) 0) (azWidth m)))
    (hr : Runs b X (p + azWidth m) (rdOf ((latchM m).getD (n % (latchN m).length) 0)) (rdOf ((latchM m).getD (n % (latchN m).length) 0)) o) : Runs b X p l (rdOf m) o := by
  obtain ⟨h1, h2, x, h3, h4⟩ := latch_ok m n hm
  have hle := h.le
  rw [putBits_len] at hle
  have hc := codeAt_at h
  rw [Nat.mod_eq_of_lt h1] at hc
  refine Runs.latch p l (rdOf m) o x (rdOf_le hm) (by rw [rdSize_of hm]; exact hle) (by rw [rdSize_of hm, hc]; exact h4) (by rw [h3]; exact rdOf_le h2) ?_
  rw [rdSize_of hm, h3]; exact hr
theorem runs_shift {p m v x : Nat} {o : List Nat} {l : Nat} (hm : m ≤ 4) (hv : v < 2 ^ azWidth m) (hx : (rdTab (rdOf m)).getD v [] = ctl x 83) (h : At b p (putBits v (azWidth m)))
    (hr : Runs b X (p + azWidth m) (rdOf m) (letTab x) o) : Runs b X p l (rdOf m) o := by
  have hle := h.le
  rw [putBits_len] at hle
  have hc := codeAt_at h
  rw [Nat.mod_eq_of_lt hv] at hc
  refine Runs.shift p l (rdOf m) o x (rdOf_le hm) (by rw [rdSize_of hm]; exact hle) (by rw [rdSize_of hm, hc]; exact hx) ?_
  rw [rdSize_of hm]; exact hr

/-- Some bytes as they are. -/
theorem runs_bytes {p m : Nat} {o : List Nat} {l : List Nat} (s : AzSt) (hs : s.mode = m) (hm : m ≤ 2) (h0 : 0 < l.length) (h1 : l.length < 2048 + 31) (hp : p = s.bits.length) (hA : ∃ r, b = (s.bytes l).bits ++ r)
    (hr : Runs b X (s.bytes l).bits.length (rdOf m) (rdOf m) (o ++ l.map (· % 128))) : Runs b X p (rdOf m) (rdOf m) o := by
  subst hs
  have hne : ¬ (l.length = 0 ∨ 2 < s.mode) := by omega
  obtain ⟨r, hb⟩ := hA
  have hw : azWidth s.mode = 5 := by unfold azWidth; rw [if_neg (by omega)]
  have hx : (rdTab (rdOf s.mode)).getD 31 [] = ctl 66 83 := by
    have : s.mode = 0 ∨ s.mode = 1 ∨ s.mode = 2 := by omega
    rcases this with h | h | h <;> rw [h] <;> rfl
  have hm4 : s.mode ≤ 4 := by omega
  unfold AzSt.bytes at hb hr
  rw [if_neg hne] at hb hr
  simp only at hb hr
  by_cases hs32 : l.length < 32
  · rw [if_pos hs32] at hb hr
    have hA : At b p (putBits 31 5 ++ (putBits l.length 5 ++ byteBits l)) := by
      rw [hb, hp, ← List.append_assoc (putBits 31 5)]; exact At.mid _ _ _
    obtain ⟨a1, a2⟩ := hA.split
    rw [putBits_len] at a2
    obtain ⟨a3, a4⟩ := a2.split
    rw [putBits_len] at a4
    have c3 := codeAt_at a3
    rw [Nat.mod_eq_of_lt (by omega)] at c3
    have l4 := a4.le
    rw [byteBits_len] at l4
    refine runs_shift (m := s.mode) (v := 31) (x := 66) hm4 (by rw [hw]; decide) hx (by rw [hw]; exact a1) ?_
    rw [hw]
    refine Runs.few (p + 5) (rdOf s.mode) l.length o (by omega) c3.symm (by omega) (by omega) (rdOf_le hm4) ?_
    rw [bytesAt_at _ l _ rfl a4]
    simp only [List.length_append, putBits_len, byteBits_len] at hr
    rwa [show p + 5 + 5 + 8 * l.length = s.bits.length + (5 + 5 + 8 * l.length) from by omega]
  · rw [if_neg hs32] at hb hr
    have hA : At b p (putBits 31 5 ++ (putBits 0 5 ++ (putBits (l.length - 31) 11 ++ byteBits l))) := by
      rw [hb, hp]
      have := At.mid s.bits (putBits 31 5 ++ (putBits 0 5 ++ (putBits (l.length - 31) 11 ++ byteBits l))) r
      simpa only [List.append_assoc] using this
    obtain ⟨a1, a2⟩ := hA.split
    rw [putBits_len] at a2
    obtain ⟨a3, a4⟩ := a2.split
    rw [putBits_len] at a4
    obtain ⟨a5, a6⟩ := a4.split
    rw [putBits_len] at a6
    have c3 := codeAt_at a3
    have c5 := codeAt_at a5
    rw [Nat.mod_eq_of_lt (by omega)] at c5
    have l4 := a6.le
    rw [byteBits_len] at l4
    refine runs_shift (m := s.mode) (v := 31) (x := 66) hm4 (by rw [hw]; decide) hx (by rw [hw]; exact a1) ?_
    rw [hw]
    have hn : l.length = codeAt b (p + 5 + 5) 11 + 31 := by omega
    refine Runs.many (p + 5) (rdOf s.mode) l.length o (by omega) (by rw [c3]) hn (by omega) (rdOf_le hm4) ?_
    rw [show p + 5 + 16 = p + 5 + 5 + 11 from by omega, bytesAt_at _ l _ rfl a6]
    simp only [List.length_append, putBits_len, byteBits_len] at hr
    rwa [show p + 5 + 5 + 11 + 8 * l.length = s.bits.length + (5 + (5 + 11) + 8 * l.length) from by omega]

/-- One thing, whatever it is. -/
theorem step_grow (code : List Nat) (i : Nat) (s : AzSt) (hm : s.mode ≤ 4) : (azStep code i s).mode ≤ 4 ∧ ∃ c, (azStep code i s).bits = s.bits ++ c := by
  unfold azStep
  simp only
  split
  · exact ⟨(latch_ok s.mode _ hm).2.1, _, rfl⟩
  split
  · exact ⟨hm, _, by simp only [AzSt.say, AzSt.put]; rw [List.append_assoc]⟩
  split
  · split
    · exact ⟨hm, _, by simp only [AzSt.say, AzSt.put]; rw [List.append_assoc]⟩
    · exact ⟨hm, _, by simp only [AzSt.say, AzSt.put]; rw [List.append_assoc]⟩
  split
  · unfold AzSt.bytes
    split
    · exact ⟨hm, [], by simp⟩
    · exact ⟨hm, _, rfl⟩
  · exact ⟨hm, _, rfl⟩

theorem step_runs (code : List Nat) (i : Nat) (s : AzSt) (hm : s.mode ≤ 4) (hb : ∃ r, b = (azStep code i s).bits ++ r)
    (hr : Runs b X (azStep code i s).bits.length (rdOf (azStep code i s).mode) (rdOf (azStep code i s).mode) (azStep code i s).text) : Runs b X s.bits.length (rdOf s.mode) (rdOf s.mode) s.text := by
  obtain ⟨r, hb⟩ := hb
  unfold azStep at hb hr
  simp only at hb hr
  split at hb
  · rename_i h1
    rw [if_pos h1] at hr
    simp only [AzSt.put, AzSt.to, List.length_append, putBits_len] at hb hr
    exact runs_latch hm (by rw [hb]; exact At.mid _ _ _) hr
  rename_i h1
  rw [if_neg h1] at hr
  split at hb
  · rename_i h2
    rw [if_pos h2] at hr
    simp only [AzSt.put, AzSt.say, List.length_append, putBits_len] at hb hr
    have hA : At b s.bits.length (putBits 0 (azWidth s.mode) ++ putBits (sayAt 3 (code.getD (i + 1) 0)) 5) := by
      rw [hb, List.append_assoc s.bits]; exact At.mid _ _ _
    obtain ⟨a1, a2⟩ := hA.split
    rw [putBits_len] at a2
    refine runs_shift hm (Nat.two_pow_pos _) ?_ a1 (x := 80) ?_
    · have : s.mode = 0 ∨ s.mode = 1 ∨ s.mode = 2 ∨ s.mode = 4 := by omega
      rcases this with h | h | h | h <;> rw [h] <;> rfl
    · exact runs_say (m := 3) (by decide) (rdOf_le hm) a2 hr
  rename_i h2
  rw [if_neg h2] at hr
  split at hb
  · rename_i h3
    rw [if_pos h3] at hr
    obtain ⟨hk, h3⟩ := h3
    split at hb
    · rename_i h4
      rw [if_pos h4] at hr
      simp only [AzSt.put, AzSt.say, List.length_append, putBits_len] at hb hr
      have hA : At b s.bits.length (putBits 28 5 ++ putBits (sayAt 0 (code.getD (i + 1) 0)) 5) := by
        rw [hb, List.append_assoc s.bits]; exact At.mid _ _ _
      obtain ⟨a1, a2⟩ := hA.split
      rw [putBits_len] at a2
      have hw : azWidth s.mode = 5 := by rw [h4]; rfl
      refine runs_shift hm (v := 28) (by rw [hw]; decide) (by rw [h4]; rfl) (by rw [hw]; exact a1) (x := 85) ?_
      rw [hw]
      exact runs_say (m := 0) (by decide) (rdOf_le hm) a2 hr
    · rename_i h4
      rw [if_neg h4] at hr
      have h5 : s.mode = 4 := by omega
      simp only [AzSt.put, AzSt.say, List.length_append, putBits_len] at hb hr
      have hA : At b s.bits.length (putBits 15 4 ++ putBits (sayAt 0 (code.getD (i + 1) 0)) 5) := by
        rw [hb, List.append_assoc s.bits]; exact At.mid _ _ _
      obtain ⟨a1, a2⟩ := hA.split
      rw [putBits_len] at a2
      have hw : azWidth s.mode = 4 := by rw [h5]; rfl
      refine runs_shift hm (v := 15) (by rw [hw]; decide) (by rw [h5]; rfl) (by rw [hw]; exact a1) (x := 85) ?_
      rw [hw]
      exact runs_say (m := 0) (by decide) (rdOf_le hm) a2 hr
  rename_i h3
  rw [if_neg h3] at hr
  split at hb
  · rename_i h4
    rw [if_pos h4] at hr
    generalize hl : (code.drop (i + 2)).take (code.getD (i + 1) 0 % 70) = l at hb hr
    have hlen : l.length < 70 := by
      rw [← hl, List.length_take]
      have := Nat.mod_lt (code.getD (i + 1) 0) (show 0 < 70 by omega)
      omega
    by_cases hz : l.length = 0 ∨ 2 < s.mode
    · unfold AzSt.bytes at hr
      rw [if_pos hz] at hr
      exact hr
    · refine runs_bytes (l := l) s rfl (by omega) (by omega) (by omega) rfl ⟨r, hb⟩ ?_
      have e1 : (s.bytes l).mode = s.mode := by unfold AzSt.bytes; rw [if_neg hz]
      have e2 : (s.bytes l).text = s.text ++ l.map (· % 128) := by unfold AzSt.bytes; rw [if_neg hz]
      rwa [e1, e2] at hr
  · rename_i h4
    rw [if_neg h4] at hr
    simp only [AzSt.say, List.length_append, putBits_len] at hb hr
    exact runs_say hm (rdOf_le hm) (by rw [hb]; exact At.mid _ _ _) hr

/-- A run of things from any writer. -/
theorem run_mode (code : List Nat) (s0 : AzSt) (h0 : s0.mode ≤ 4) : ∀ j, (azRun s0 code j).mode ≤ 4
  | 0 => h0
  | j + 1 => (step_grow code (2 * j) _ (run_mode code s0 h0 j)).1
theorem run_runs (code : List Nat) (s0 : AzSt) (h0 : s0.mode ≤ 4) : ∀ j, (∃ r, b = (azRun s0 code j).bits ++ r) →
    Runs b X (azRun s0 code j).bits.length (rdOf (azRun s0 code j).mode) (rdOf (azRun s0 code j).mode) (azRun s0 code j).text → Runs b X s0.bits.length (rdOf s0.mode) (rdOf s0.mode) s0.text := by
  intro j
  induction j with
  | zero => intro _ h; exact h
  | succ j ih =>
    intro hb hr
    have hm := run_mode code s0 h0 j
    obtain ⟨_, c, hc⟩ := step_grow code (2 * j) (azRun s0 code j) hm
    refine ih ?_ (step_runs code (2 * j) _ hm hb hr)
    obtain ⟨r, hb⟩ := hb
    exact ⟨c ++ r, by rw [hb]; show (azStep code (2 * j) (azRun s0 code j)).bits ++ r = _; rw [hc, List.append_assoc]⟩
/-- A plain string, read. -/
theorem plain_mode (l : List Nat) : ∀ j, (plainTo l j).mode = 0
  | 0 => rfl
  | j + 1 => by
    show ((plainTo l j).bytes _).mode = 0
    unfold AzSt.bytes
    split <;> exact plain_mode l j
theorem bytes_grow (s : AzSt) (l : List Nat) : ∃ c, (s.bytes l).bits = s.bits ++ c := by
  unfold AzSt.bytes
  split
  · exact ⟨[], by simp⟩
  · exact ⟨_, rfl⟩
theorem plain_runs (l : List Nat) : ∀ j, (∃ r, b = (plainTo l j).bits ++ r) → Runs b X (plainTo l j).bits.length 0 0 (plainTo l j).text → Runs b X 0 0 0 [] := by
  intro j
  induction j with
  | zero => intro _ h; exact h
  | succ j ih =>
    intro hb hr
    obtain ⟨c, hc⟩ := bytes_grow (plainTo l j) ((l.drop (62 * j)).take 62)
    have hb' := hb
    refine ih (by obtain ⟨r, hb⟩ := hb; exact ⟨c ++ r, by rw [hb]; show ((plainTo l j).bytes _).bits ++ r = _; rw [hc, List.append_assoc]⟩) ?_
    change Runs b X ((plainTo l j).bytes ((l.drop (62 * j)).take 62)).bits.length 0 0 ((plainTo l j).bytes ((l.drop (62 * j)).take 62)).text at hr
    have hb2 : ∃ r, b = ((plainTo l j).bytes ((l.drop (62 * j)).take 62)).bits ++ r := hb'
    generalize hk : (l.drop (62 * j)).take 62 = k at hr hb2
    have hkl : k.length ≤ 62 := by rw [← hk, List.length_take]; omega
    have hm := plain_mode l j
    by_cases hz : k.length = 0 ∨ 2 < (plainTo l j).mode
    · unfold AzSt.bytes at hr
      rw [if_pos hz] at hr
      exact hr
    · refine runs_bytes (l := k) (plainTo l j) hm (by omega) (by omega) (by omega) rfl hb2 ?_
      have e2 : ((plainTo l j).bytes k).text = (plainTo l j).text ++ k.map (· % 128) := by unfold AzSt.bytes; rw [if_neg hz]
      rwa [e2] at hr
theorem plain_text (l : List Nat) : ∀ j, (plainTo l j).text = (l.take (62 * j)).map (· % 128) := by
  intro j
  induction j with
  | zero => rfl
  | succ j ih =>
    show ((plainTo l j).bytes ((l.drop (62 * j)).take 62)).text = _
    have hm := plain_mode l j
    unfold AzSt.bytes
    have e : l.take (62 * (j + 1)) = l.take (62 * j) ++ (l.drop (62 * j)).take 62 := by
      rw [show 62 * (j + 1) = 62 * j + 62 from by omega, List.take_add]
    split
    · rename_i h
      have : (l.drop (62 * j)).take 62 = [] := List.eq_nil_of_length_eq_zero (by omega)
      rw [e, this, List.append_nil, ih]
    · rw [e, List.map_append, ih]
/-- A writer that began with something. -/
def preSt (a : List Bool) (t : List Nat) (s : AzSt) : AzSt := ⟨a ++ s.bits, t ++ s.text, s.mode⟩
theorem step_pre (code : List Nat) (i : Nat) (a : List Bool) (t : List Nat) (s : AzSt) : azStep code i (preSt a t s) = preSt a t (azStep code i s) := by
  unfold azStep preSt
  simp only [AzSt.put, AzSt.say, AzSt.to, AzSt.bytes]
  split
  · simp
  split
  · simp
  split
  · split <;> simp
  split
  · split <;> simp
  · simp
theorem run_pre (code : List Nat) (a : List Bool) (t : List Nat) (s : AzSt) : ∀ j, azRun (preSt a t s) code j = preSt a t (azRun s code j)
  | 0 => rfl
  | j + 1 => by rw [azRun, run_pre code a t s j, step_pre]; rfl
end

/-- A plain string and a message behind it are read as both texts. -/
theorem joins (l code : List Nat) (j k : Nat) (hl : l.length ≤ 62 * j) (h128 : ∀ c ∈ l, c < 128) :
    Runs ((plainTo l j).bits ++ (azRun ⟨[], [], 0⟩ code k).bits) (l ++ (azRun ⟨[], [], 0⟩ code k).text) 0 0 0 [] := by
  have ht : (plainTo l j).text = l := by
    rw [plain_text, List.take_of_length_le hl]
    apply List.ext_getElem (by simp)
    intro i h1 h2
    simp only [List.getElem_map]
    exact Nat.mod_eq_of_lt (h128 _ (List.getElem_mem h2))
  refine plain_runs l j ⟨_, rfl⟩ ?_
  rw [ht]
  have hp := run_pre code (plainTo l j).bits l ⟨[], [], 0⟩ k
  simp only [preSt, List.append_nil] at hp
  have := run_runs (b := (plainTo l j).bits ++ (azRun ⟨[], [], 0⟩ code k).bits) (X := l ++ (azRun ⟨[], [], 0⟩ code k).text) code ⟨(plainTo l j).bits, l, 0⟩ (Nat.zero_le 4) k
  rw [hp] at this
  exact this ⟨[], by simp⟩ (Runs.done _ _ _ (by simp))
end Go.Proofs.YtliephokeafllaaGreatDoor
