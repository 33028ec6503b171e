/- Data Matrix: what the reader of the words of segments says. Plain. -/
import Derived.Test.YtfmjkflihnfneaaDoorDnL
import Derived.Test.YtfmjkflihnfneaaDoorSrcL
namespace Go.Proofs.YtfmjkflihnfneaaDoor
set_option linter.unusedVariables false

/-- The words l stand in W from place p on. -/
def AtW (W : List Nat) (p : Nat) (l : List Nat) : Prop := p + l.length ≤ W.length ∧ ∀ i, i < l.length → W.getD (p + i) 0 = l.getD i 0
theorem AtW.cons {W : List Nat} {p a : Nat} {l : List Nat} (h : AtW W p (a :: l)) : p < W.length ∧ W.getD p 0 = a ∧ AtW W (p + 1) l := by
  obtain ⟨h1, h2⟩ := h
  rw [List.length_cons] at h1
  refine ⟨by omega, ?_, by omega, fun i hi => ?_⟩
  · have := h2 0 (by simp); simpa using this
  · have := h2 (i + 1) (by rw [List.length_cons]; omega)
    rw [show p + (i + 1) = p + 1 + i by omega] at this
    simpa using this
theorem AtW.app {W : List Nat} {p : Nat} {a b : List Nat} (h : AtW W p (a ++ b)) : AtW W p a ∧ AtW W (p + a.length) b := by
  obtain ⟨h1, h2⟩ := h
  rw [List.length_append] at h1 h2
  refine ⟨⟨by omega, fun i hi => ?_⟩, by omega, fun i hi => ?_⟩
  · rw [h2 i (by omega)]
    simp [List.getD, List.getElem?_append_left hi]
  · have := h2 (a.length + i) (by omega)
    rw [← Nat.add_assoc] at this
    rw [this]
    simp [List.getD, List.getElem?_append_right]

/-- Values in threes from place p on, up to the unlatch: where one goes on, and what was said. -/
inductive TSeg (W : List Nat) (m : Nat) : Nat → Nat → Nat → List Nat → Prop
  | stop (p sh : Nat) : p + 2 < W.length → W.getD p 0 = 254 → TSeg W m p sh (p + 1) []
  | pair (p sh a b c q : Nat) (l : List Nat) : p + 3 < W.length → W.getD p 0 = (1600 * a + 40 * b + c + 1) / 256 → W.getD (p + 1) 0 = (1600 * a + 40 * b + c + 1) % 256 → vAllOk m sh [a, b, c] = true →
      TSeg W m (p + 2) (vRun m (sh, []) [a, b, c]).1 q l → TSeg W m p sh q ((vRun m (sh, []) [a, b, c]).2 ++ l)

/-- What six bits say. -/
def ediC (v : Nat) : Nat := if v < 32 then v + 64 else v
def ediL (W : List Nat) (p n : Nat) : List Nat := (List.range n).map fun i => ediC (rdn W (8 * p + 6 * i) 6)

/-- From place p on, in a mode, with o said so far, the reader comes to the text X without an error. The modes: 1 ASCII, 2 C40, 3 Text, 4 X12, 5 EDIFACT, 6 Base 256. -/
inductive Says (W : List Nat) (X : List Nat) : Nat → Nat → List Nat → Prop
  | pad (p : Nat) : p < W.length → W.getD p 0 = 129 → Says W X 1 p X
  | ch (p c : Nat) (o : List Nat) : p < W.length → W.getD p 0 = c + 1 → c ≤ 127 → Says W X 1 (p + 1) (o ++ [c]) → Says W X 1 p o
  | dig (p d : Nat) (o : List Nat) : p < W.length → W.getD p 0 = 130 + d → d ≤ 99 → Says W X 1 (p + 1) (o ++ [48 + d / 10, 48 + d % 10]) → Says W X 1 p o
  | latch (p k : Nat) (o : List Nat) : p < W.length → (k = 2 ∧ W.getD p 0 = 230 ∨ k = 3 ∧ W.getD p 0 = 239 ∨ k = 4 ∧ W.getD p 0 = 238 ∨ k = 5 ∧ W.getD p 0 = 240 ∨ k = 6 ∧ W.getD p 0 = 231) → Says W X k (p + 1) o → Says W X 1 p o
  | thr (p m q : Nat) (o l : List Nat) : 1 ≤ m → m ≤ 3 → TSeg W m p 0 q l → Says W X 1 q (o ++ l) → Says W X (m + 1) p o
  | edi (p n q : Nat) (o : List Nat) : q = p + (6 * (n + 1) + 7) / 8 → q + 3 ≤ W.length → (∀ i, i < n → rdn W (8 * p + 6 * i) 6 ≠ 31) → rdn W (8 * p + 6 * n) 6 = 31 → Says W X 1 q (o ++ ediL W p n) → Says W X 5 p o
  | b256 (p : Nat) (s o : List Nat) : 1 ≤ s.length → s.length ≤ 1600 → (∀ c ∈ s, c < 256) → AtW W p (mixTo (lenW s.length ++ s) (p - 1)) → 1 ≤ p → Says W X 1 (p + (lenW s.length).length + s.length) (o ++ s) → Says W X 6 p o

section
variable {W X : List Nat}
theorem ascii_says : ∀ (s : List Nat) (p : Nat) (o : List Nat), (∀ c ∈ s, c ≤ 127) → AtW W p (asciiW s) → Says W X 1 (p + (asciiW s).length) (o ++ s) → Says W X 1 p o
  | [], p, o, _, _, h => by simpa [asciiW] using h
  | [a], p, o, h127, hA, h => by
    simp only [asciiW] at hA h
    obtain ⟨h1, h2, _⟩ := hA.cons
    exact Says.ch p a o h1 h2 (h127 a (by simp)) (by simpa using h)
  | a :: b :: t, p, o, h127, hA, h => by
    by_cases hd : (isDig a && isDig b) = true
    · simp only [asciiW, hd, if_true] at hA h
      obtain ⟨h1, h2, h3⟩ := hA.cons
      simp only [Bool.and_eq_true, isDig, decide_eq_true_eq] at hd
      refine Says.dig p (10 * (a - 48) + (b - 48)) o h1 (by rw [h2]; omega) (by omega) ?_
      have e1 : 48 + (10 * (a - 48) + (b - 48)) / 10 = a := by omega
      have e2 : 48 + (10 * (a - 48) + (b - 48)) % 10 = b := by omega
      rw [e1, e2]
      refine ascii_says t (p + 1) (o ++ [a, b]) (fun c hc => h127 c (by simp [hc])) h3 ?_
      rw [List.length_cons] at h
      rw [show p + 1 + (asciiW t).length = p + ((asciiW t).length + 1) by omega]
      simpa using h
    · rw [Bool.not_eq_true] at hd
      simp only [asciiW, hd] at hA h
      obtain ⟨h1, h2, h3⟩ := hA.cons
      refine Says.ch p a o h1 h2 (h127 a (by simp)) ?_
      refine ascii_says (b :: t) (p + 1) (o ++ [a]) (fun c hc => h127 c (by simp at hc ⊢; exact .inr hc)) h3 ?_
      simp only [Bool.false_eq_true, if_false, List.length_cons] at h
      rw [show p + 1 + (asciiW (b :: t)).length = p + ((asciiW (b :: t)).length + 1) by omega]
      simpa using h
theorem triW_len : ∀ l : List Nat, l.length % 3 = 0 → (triW l).length = 2 * (l.length / 3)
  | [], _ => rfl
  | [_], h => by simp at h
  | [_, _], h => by simp at h
  | a :: b :: c :: t, h => by
    have := triW_len t (by simp only [List.length_cons] at h; omega)
    simp only [triW, List.length_cons, this]
    omega
theorem tri_tseg (m : Nat) : ∀ (l : List Nat) (p sh : Nat), l.length % 3 = 0 → vAllOk m sh l = true → AtW W p (triW l ++ [254]) → p + (triW l).length + 2 < W.length → TSeg W m p sh (p + (triW l).length + 1) (vRun m (sh, []) l).2
  | [], p, sh, _, _, hA, hw => by
    simp only [triW, List.nil_append] at hA
    obtain ⟨h1, h2, _⟩ := hA.cons
    exact TSeg.stop p sh (by simpa [triW] using hw) h2
  | [_], _, _, h, _, _, _ => by simp at h
  | [_, _], _, _, h, _, _, _ => by simp at h
  | a :: b :: c :: t, p, sh, h3, hv, hA, hw => by
    simp only [triW, List.cons_append] at hA
    obtain ⟨h1, h2, hA⟩ := hA.cons
    obtain ⟨h4, h5, hA⟩ := hA.cons
    have e : a :: b :: c :: t = [a, b, c] ++ t := rfl
    rw [e, vAllOk_app m [a, b, c] t sh [], Bool.and_eq_true] at hv
    have hl : (triW (a :: b :: c :: t)).length = (triW t).length + 2 := by simp [triW]
    rw [hl] at hw ⊢
    have ht := tri_tseg m t (p + 2) (vRun m (sh, []) [a, b, c]).1 (by simp only [List.length_cons] at h3; omega) hv.2 hA (by omega)
    have hr : (vRun m (sh, []) (a :: b :: c :: t)).2 = (vRun m (sh, []) [a, b, c]).2 ++ (vRun m ((vRun m (sh, []) [a, b, c]).1, []) t).2 := by
      rw [e, vRun_app]
      have := vRun_pre m t (vRun m (sh, []) [a, b, c]).1 (vRun m (sh, []) [a, b, c]).2
      rw [show ((vRun m (sh, []) [a, b, c]).1, (vRun m (sh, []) [a, b, c]).2) = vRun m (sh, []) [a, b, c] from rfl] at this
      rw [this]
    rw [hr, show p + ((triW t).length + 2) + 1 = p + 2 + (triW t).length + 1 by omega]
    exact TSeg.pair p sh a b c _ _ (by omega) h2 h5 hv.1 ht
theorem three_says (m : Nat) (hm1 : 1 ≤ m) (hm3 : m ≤ 3) (s : List Nat) (p : Nat) (o : List Nat) (h127 : ∀ c ∈ s, c ≤ 127 ∧ (m = 3 → x12Ok c = true)) (hA : AtW W p (threeW m s)) (hw : p + (threeW m s).length + 2 < W.length)
    (h : Says W X 1 (p + (threeW m s).length) (o ++ s)) : Says W X 1 p o := by
  unfold threeW at hA hw h
  obtain ⟨hb1, hb2, hb3⟩ := best_ok m s s.length (Nat.le_refl _)
  generalize bestTo m s s.length = bt at *
  by_cases h0 : bt.1 = 0
  · rw [if_pos h0] at hA hw h
    exact ascii_says s p o (fun c hc => (h127 c hc).1) hA h
  · rw [if_neg h0] at hA hw h
    rw [hb2, thrAll_take] at hA hw h
    obtain ⟨h1, h2, hA⟩ := hA.cons
    have e1 : triW (thrAll m (s.take bt.1)) ++ 254 :: asciiW (s.drop bt.1) = (triW (thrAll m (s.take bt.1)) ++ [254]) ++ asciiW (s.drop bt.1) := by simp
    rw [e1] at hA
    obtain ⟨hA1, hA2⟩ := hA.app
    simp only [List.length_cons, List.length_append, List.length_nil] at hA2 hw h
    obtain ⟨g1, g2⟩ := all_ok m hm1 hm3 (s.take bt.1) [] (fun c hc => h127 c (List.mem_of_mem_take hc))
    have ht := tri_tseg m (thrAll m (s.take bt.1)) (p + 1) 0 (by rw [← hb2]; exact hb3) g1 hA1 (by omega)
    rw [g2] at ht
    refine Says.latch p (m + 1) o h1 ?_ (Says.thr (p + 1) m _ o _ hm1 hm3 ht ?_)
    · have : m = 1 ∨ m = 2 ∨ m = 3 := by omega
      rcases this with rfl | rfl | rfl
      · exact .inl ⟨rfl, by rw [h2]; rfl⟩
      · exact .inr (.inl ⟨rfl, by rw [h2]; rfl⟩)
      · exact .inr (.inr (.inl ⟨rfl, by rw [h2]; rfl⟩))
    · simp only [List.nil_append]
      refine ascii_says (s.drop bt.1) _ (o ++ s.take bt.1) (fun c hc => (h127 c (List.mem_of_mem_drop hc)).1) (by rw [show p + 1 + (triW (thrAll m (s.take bt.1))).length + 1 = p + 1 + ((triW (thrAll m (s.take bt.1))).length + 1) by omega]; exact hA2) ?_
      rw [List.append_assoc, List.take_append_drop]
      rwa [show p + 1 + (triW (thrAll m (s.take bt.1))).length + 1 + (asciiW (s.drop bt.1)).length = p + ((triW (thrAll m (s.take bt.1))).length + ((asciiW (s.drop bt.1)).length + 1) + 1) by omega]
theorem byte_says (s : List Nat) (p : Nat) (o : List Nat) (h127 : ∀ c ∈ s, c ≤ 127) (h1 : 1 ≤ s.length) (h2 : s.length ≤ 1600) (hA : AtW W p (byteW s p)) (h : Says W X 1 (p + (byteW s p).length) (o ++ s)) : Says W X 1 p o := by
  unfold byteW at hA h
  obtain ⟨g1, g2, hA⟩ := hA.cons
  refine Says.latch p 6 o g1 (.inr (.inr (.inr (.inr ⟨rfl, g2⟩)))) (Says.b256 (p + 1) s o h1 h2 (fun c hc => by have := h127 c hc; omega) hA (by omega) ?_)
  have e : (mixTo (lenW s.length ++ s) p).length = (lenW s.length).length + s.length := by simp [mixTo]
  rw [List.length_cons, e] at h
  rwa [show p + 1 + (lenW s.length).length + s.length = p + ((lenW s.length).length + s.length + 1) by omega]
end

/-- Bytes as one number. -/
def b256 (l : List Nat) : Nat := l.foldl (fun a x => a * 256 + x) 0
theorem b256_snoc (l : List Nat) (x : Nat) : b256 (l ++ [x]) = b256 l * 256 + x := by simp [b256]
def numV (v : Nat → Nat) : Nat → Nat
  | 0 => 0
  | i + 1 => 64 * numV v i + v i
theorem numV_div (v : Nat → Nat) (hv : ∀ i, v i < 64) (i : Nat) : ∀ d, numV v (i + d) / 64 ^ d = numV v i
  | 0 => by simp
  | d + 1 => by
    have := numV_div v hv i d
    have h1 := hv (i + d)
    rw [← Nat.add_assoc, numV, Nat.pow_succ, Nat.mul_comm (64 ^ d) 64, ← Nat.div_div_eq_div_mul, show (64 * numV v (i + d) + v (i + d)) / 64 = numV v (i + d) by omega, this]
theorem six_inv (v : Nat → Nat) (hv : ∀ i, v i < 64) : ∀ i, (sixTo v i).1 < 2 ^ (sixTo v i).2.1 ∧ ((sixTo v i).2.1 = 0 ∨ (sixTo v i).2.1 = 2 ∨ (sixTo v i).2.1 = 4 ∨ (sixTo v i).2.1 = 6) ∧ 6 * i = 8 * (sixTo v i).2.2.length + (sixTo v i).2.1 ∧
    (∀ x ∈ (sixTo v i).2.2, x < 256) ∧ b256 (sixTo v i).2.2 * 2 ^ (sixTo v i).2.1 + (sixTo v i).1 = numV v i
  | 0 => by simp [sixTo, b256, numV]
  | i + 1 => by
    obtain ⟨h1, h2, h3, h4, h5⟩ := six_inv v hv i
    have h6 := hv i
    obtain ⟨bits, n, out, hr⟩ : ∃ bits n out, sixTo v i = (bits, n, out) := ⟨_, _, _, rfl⟩
    rw [hr] at h1 h2 h3 h4 h5
    simp only at h1 h2 h3 h4 h5
    have e : sixTo v (i + 1) = if 8 ≤ n + 6 then ((64 * bits + v i) % 2 ^ (n - 2), n - 2, out ++ [(64 * bits + v i) / 2 ^ (n - 2)]) else (64 * bits + v i, n + 6, out) := by
      rw [sixTo, hr]
    rw [e, numV, ← h5]
    clear e hr h5
    rcases h2 with rfl | rfl | rfl | rfl
    · simp only [show ¬ (8 ≤ 0 + 6) by decide, if_false]
      simp only [Nat.pow_zero, Nat.mul_one] at h1 ⊢
      refine ⟨by omega, by simp, by omega, h4, by omega⟩
    · simp only [show 8 ≤ 2 + 6 by decide, if_true, show (2 : Nat) - 2 = 0 from rfl, Nat.pow_zero, Nat.mod_one, Nat.div_one, List.length_append, List.length_singleton, b256_snoc]
      refine ⟨by omega, by simp, by omega, fun x hx => ?_, by omega⟩
      rcases List.mem_append.1 hx with h | h
      · exact h4 x h
      · rw [List.mem_singleton.1 h]; simp at h1; omega
    · simp only [show 8 ≤ 4 + 6 by decide, if_true, show (4 : Nat) - 2 = 2 from rfl, show (2 : Nat) ^ 2 = 4 from rfl, show (2 : Nat) ^ 4 = 16 from rfl, List.length_append, List.length_singleton, b256_snoc] at h1 ⊢
      refine ⟨by omega, by simp, by omega, fun x hx => ?_, by omega⟩
      rcases List.mem_append.1 hx with h | h
      · exact h4 x h
      · rw [List.mem_singleton.1 h]; omega
    · simp only [show 8 ≤ 6 + 6 by decide, if_true, show (6 : Nat) - 2 = 4 from rfl, show (2 : Nat) ^ 6 = 64 from rfl, show (2 : Nat) ^ 4 = 16 from rfl, List.length_append, List.length_singleton, b256_snoc] at h1 ⊢
      refine ⟨by omega, by simp, by omega, fun x hx => ?_, by omega⟩
      rcases List.mem_append.1 hx with h | h
      · exact h4 x h
      · rw [List.mem_singleton.1 h]; omega
theorem six_all (v : Nat → Nat) (hv : ∀ i, v i < 64) (n : Nat) : (sixAll v n).length = (6 * n + 7) / 8 ∧ (∀ x ∈ sixAll v n, x < 256) ∧ b256 (sixAll v n) = numV v n * 2 ^ (8 * (sixAll v n).length - 6 * n) := by
  obtain ⟨h1, h2, h3, h4, h5⟩ := six_inv v hv n
  unfold sixAll
  generalize sixTo v n = r at *
  obtain ⟨bits, k, out⟩ := r
  simp only at h1 h2 h3 h4 h5 ⊢
  rcases h2 with rfl | rfl | rfl | rfl
  · rw [if_pos rfl]
    refine ⟨by omega, h4, ?_⟩
    rw [show 8 * out.length - 6 * n = 0 by omega, ← h5]
    simp at h1 ⊢
    omega
  · rw [if_neg (by decide)]
    simp only [List.length_append, List.length_singleton, b256_snoc]
    refine ⟨by omega, fun x hx => ?_, ?_⟩
    · rcases List.mem_append.1 hx with h | h
      · exact h4 x h
      · rw [List.mem_singleton.1 h]; simp at h1 ⊢; omega
    · rw [show 8 * (out.length + 1) - 6 * n = 6 by omega, ← h5]
      simp only [show 8 - 2 = 6 from rfl, show (2 : Nat) ^ 6 = 64 from rfl, show (2 : Nat) ^ 2 = 4 from rfl]
      omega
  · rw [if_neg (by decide)]
    simp only [List.length_append, List.length_singleton, b256_snoc]
    refine ⟨by omega, fun x hx => ?_, ?_⟩
    · rcases List.mem_append.1 hx with h | h
      · exact h4 x h
      · rw [List.mem_singleton.1 h]; simp at h1 ⊢; omega
    · rw [show 8 * (out.length + 1) - 6 * n = 4 by omega, ← h5]
      simp only [show 8 - 4 = 4 from rfl, show (2 : Nat) ^ 4 = 16 from rfl]
      omega
  · rw [if_neg (by decide)]
    simp only [List.length_append, List.length_singleton, b256_snoc]
    refine ⟨by omega, fun x hx => ?_, ?_⟩
    · rcases List.mem_append.1 hx with h | h
      · exact h4 x h
      · rw [List.mem_singleton.1 h]; simp at h1 ⊢; omega
    · rw [show 8 * (out.length + 1) - 6 * n = 2 by omega, ← h5]
      simp only [show 8 - 6 = 2 from rfl, show (2 : Nat) ^ 6 = 64 from rfl, show (2 : Nat) ^ 2 = 4 from rfl]
      omega
theorem rdn_words {W : List Nat} {p : Nat} (l : List Nat) (hA : AtW W p l) (h8 : ∀ x ∈ l, x < 256) : ∀ k, k ≤ l.length → rdn W (8 * p) (8 * k) = b256 (l.take k)
  | 0, _ => by simp [rdn, b256]
  | k + 1, hk => by
    have h1 := hA.2 k (by omega)
    have h2 := rdn_words l hA h8 k (by omega)
    have e : (8 * p + 8 * k) / 8 = p + k := by omega
    have hlt : l.getD k 0 < 256 := by
      rw [List.getD, List.getElem?_eq_getElem (by omega)]
      exact h8 _ (List.getElem_mem _)
    rw [show 8 * (k + 1) = 8 * k + 8 by omega, rdn_byte W (8 * p) (8 * k) (by omega) (by rw [e, h1]; exact hlt), e, h1, h2, List.take_succ_eq_append_getElem (by omega), b256_snoc, List.getD, List.getElem?_eq_getElem (by omega)]
    rfl
theorem rdn_six {W : List Nat} {p : Nat} (v : Nat → Nat) (hv : ∀ i, v i < 64) (n : Nat) (hA : AtW W p (sixAll v n)) (i : Nat) (hi : i < n) : rdn W (8 * p + 6 * i) 6 = v i := by
  obtain ⟨h1, h2, h3⟩ := six_all v hv n
  have hall := rdn_words (sixAll v n) hA h2 _ (Nat.le_refl _)
  rw [List.take_length, h3] at hall
  generalize (sixAll v n).length = L at *
  have key : ∀ j, j ≤ n → rdn W (8 * p) (6 * j) = numV v j := by
    intro j hj
    have ha := rdn_add W (8 * p) (6 * j) (8 * L - 6 * j)
    rw [show 6 * j + (8 * L - 6 * j) = 8 * L by omega, hall] at ha
    have hr := rdn_lt W (8 * p + 6 * j) (8 * L - 6 * j)
    have hd : (rdn W (8 * p) (6 * j) * 2 ^ (8 * L - 6 * j) + rdn W (8 * p + 6 * j) (8 * L - 6 * j)) / 2 ^ (8 * L - 6 * j) = rdn W (8 * p) (6 * j) := by
      rw [Nat.mul_comm, Nat.mul_add_div (Nat.two_pow_pos _), Nat.div_eq_of_lt hr, Nat.add_zero]
    rw [← hd, ← ha]
    have e1 : 8 * L - 6 * j = (8 * L - 6 * n) + 6 * (n - j) := by omega
    rw [e1, Nat.pow_add, ← Nat.div_div_eq_div_mul, Nat.mul_div_cancel _ (Nat.two_pow_pos _), Nat.pow_mul, show (2 : Nat) ^ 6 = 64 from rfl]
    have := numV_div v hv j (n - j)
    rwa [show j + (n - j) = n by omega] at this
  have k1 := key (i + 1) (by omega)
  have k2 := key i (by omega)
  have ha := rdn_add W (8 * p) (6 * i) 6
  rw [show 6 * i + 6 = 6 * (i + 1) by omega, k1, k2, numV] at ha
  simp only [show (2 : Nat) ^ 6 = 64 from rfl] at ha
  omega
theorem sixV_lt (s : List Nat) (i : Nat) : sixV s i < 64 := by unfold sixV; split <;> omega
theorem six_says {W X : List Nat} (s : List Nat) (p : Nat) (o : List Nat) (h94 : ∀ c ∈ s, 32 ≤ c ∧ c ≤ 94) (hA : AtW W p (sixW s)) (hw : p + (sixW s).length + 3 ≤ W.length) (h : Says W X 1 (p + (sixW s).length) (o ++ s)) : Says W X 1 p o := by
  unfold sixW at hA hw h
  obtain ⟨g1, g2, hA⟩ := hA.cons
  obtain ⟨hl, _, _⟩ := six_all (sixV s) (sixV_lt s) (s.length + 1)
  have hr := fun i hi => rdn_six (sixV s) (sixV_lt s) (s.length + 1) hA i hi
  rw [List.length_cons, hl] at hw h
  have hg : ∀ i, i < s.length → 32 ≤ s.getD i 0 ∧ s.getD i 0 ≤ 94 := fun i hi => by
    rw [List.getD, List.getElem?_eq_getElem hi]
    exact h94 _ (List.getElem_mem _)
  refine Says.latch p 5 o g1 (.inr (.inr (.inr (.inl ⟨rfl, g2⟩)))) (Says.edi (p + 1) s.length _ o rfl (by omega) (fun i hi => ?_) ?_ ?_)
  · rw [hr i (by omega), sixV, if_pos hi]
    have := hg i hi
    omega
  · rw [hr s.length (by omega), sixV, if_neg (by omega)]
  · have e : ediL W (p + 1) s.length = s := by
      apply List.ext_getElem
      · simp [ediL]
      · intro i a b
        simp only [ediL, List.getElem_map, List.getElem_range]
        rw [hr i (by omega), sixV, if_pos b]
        have := hg i b
        rw [List.getD, List.getElem?_eq_getElem b] at this ⊢
        simp only [Option.getD_some] at this ⊢
        unfold ediC
        split <;> omega
    rw [e]
    rwa [show p + 1 + (6 * (s.length + 1) + 7) / 8 = p + ((6 * (s.length + 1) + 7) / 8 + 1) by omega]

theorem inMode_ok {m : Nat} {s : List Nat} (h : inMode m s = true) : m ≤ 5 ∧ ∀ c ∈ s, c ≤ 127 ∧ (m = 3 → x12Ok c = true) ∧ (m = 4 → 32 ≤ c ∧ c ≤ 94) := by
  simp only [inMode, Bool.and_eq_true, decide_eq_true_eq, List.all_eq_true, Bool.or_eq_true, Bool.not_eq_true', beq_eq_false_iff_ne] at h
  refine ⟨h.1, fun c hc => ?_⟩
  obtain ⟨⟨h1, h2⟩, h3⟩ := h.2 c hc
  exact ⟨h1, fun e => h2.resolve_left (fun x => x e), fun e => h3.resolve_left (fun x => x e)⟩
theorem seg_says {W X : List Nat} (m : Nat) (s : List Nat) (p : Nat) (o : List Nat) (hm : inMode m s = true) (hl : s.length ≤ 1600) (hA : AtW W p (segW m s p)) (hw : p + (segW m s p).length + 3 ≤ W.length)
    (h : Says W X 1 (p + (segW m s p).length) (o ++ s)) : Says W X 1 p o := by
  obtain ⟨hm5, hc⟩ := inMode_ok hm
  unfold segW at hA hw h
  by_cases h0 : s = []
  · rw [if_pos h0] at h
    rw [h0] at h
    simpa using h
  rw [if_neg h0] at hA hw h
  have h1 : 1 ≤ s.length := by cases s with
    | nil => exact absurd rfl h0
    | cons a t => simp
  by_cases hm0 : m = 0
  · rw [if_pos hm0] at hA hw h
    exact ascii_says s p o (fun c hcc => (hc c hcc).1) hA h
  rw [if_neg hm0] at hA hw h
  by_cases hm4 : m = 4
  · rw [if_pos hm4] at hA hw h
    exact six_says s p o (fun c hcc => (hc c hcc).2.2 hm4) hA hw h
  rw [if_neg hm4] at hA hw h
  by_cases hm5 : m = 5
  · rw [if_pos hm5] at hA hw h
    exact byte_says s p o (fun c hcc => (hc c hcc).1) h1 hl hA h
  rw [if_neg hm5] at hA hw h
  exact three_says m (by omega) (by omega) s p o (fun c hcc => ⟨(hc c hcc).1, (hc c hcc).2.1⟩) hA (by omega) h
/-- The words of segments, with pads behind them, say the texts. -/
theorem script_says (l : List (Nat × List Nat)) (hin : ∀ x ∈ l, inMode x.1 x.2 = true ∧ x.2.length ≤ 1600) (n : Nat) (hn : (scriptTo l l.length).length + 3 ≤ n) : Says (padW (scriptTo l l.length) n) (saidTo l l.length) 1 0 [] := by
  generalize hW : padW (scriptTo l l.length) n = W
  have hWl : W.length = n := by rw [← hW]; simp [padW]; omega
  have hpre : ∀ k, k ≤ l.length → ∃ t, W = scriptTo l k ++ t := by
    intro k hk
    have : ∀ d, ∃ t, scriptTo l (k + d) = scriptTo l k ++ t := by
      intro d
      induction d with
      | zero => exact ⟨[], by simp⟩
      | succ d ih =>
        obtain ⟨t, ht⟩ := ih
        exact ⟨t ++ segW _ _ _, by rw [← Nat.add_assoc, scriptTo, ht, List.append_assoc]⟩
    obtain ⟨t, ht⟩ := this (l.length - k)
    rw [show k + (l.length - k) = l.length by omega] at ht
    exact ⟨t ++ _, by rw [← hW, padW, ht, List.append_assoc]⟩
  have hend : Says W (saidTo l l.length) 1 (scriptTo l l.length).length (saidTo l l.length) := by
    refine Says.pad _ (by omega) ?_
    rw [← hW, padW, List.getD, List.getElem?_append_right (Nat.le_refl _), Nat.sub_self, List.getElem?_map, List.getElem?_range (by omega)]
    simp [padN]
  have step : ∀ d, d ≤ l.length → Says W (saidTo l l.length) 1 (scriptTo l (l.length - d)).length (saidTo l (l.length - d)) := by
    intro d
    induction d with
    | zero => intro _; exact hend
    | succ d ih =>
      intro hd
      have h1 := ih (by omega)
      obtain ⟨k, hk⟩ : ∃ k, k = l.length - (d + 1) := ⟨_, rfl⟩
      rw [show l.length - d = k + 1 by omega] at h1
      rw [← hk]
      have hkl : k < l.length := by omega
      obtain ⟨t, ht⟩ := hpre (k + 1) (by omega)
      rw [scriptTo] at ht
      have hx : l.getD k (0, []) ∈ l := by
        rw [List.getD, List.getElem?_eq_getElem hkl]
        exact List.getElem_mem _
      obtain ⟨g1, g2⟩ := hin _ hx
      have hlen : (scriptTo l (k + 1)).length ≤ (scriptTo l l.length).length := by
        obtain ⟨t2, ht2⟩ : ∃ t2, scriptTo l l.length = scriptTo l (k + 1) ++ t2 := by
          have : ∀ d, ∃ t, scriptTo l (k + 1 + d) = scriptTo l (k + 1) ++ t := by
            intro d
            induction d with
            | zero => exact ⟨[], by simp⟩
            | succ d ih =>
              obtain ⟨t, ht⟩ := ih
              exact ⟨t ++ segW _ _ _, by rw [← Nat.add_assoc, scriptTo, ht, List.append_assoc]⟩
          obtain ⟨t, ht⟩ := this (l.length - (k + 1))
          rw [show k + 1 + (l.length - (k + 1)) = l.length by omega] at ht
          exact ⟨t, ht⟩
        rw [ht2, List.length_append]; omega
      rw [scriptTo] at h1 hlen
      have hsaid : saidTo l (k + 1) = saidTo l k ++ (l.getD k (0, [])).2 := by
        unfold saidTo
        rw [List.take_succ_eq_append_getElem hkl, List.map_append, List.flatten_append, List.getD, List.getElem?_eq_getElem hkl]
        simp
      rw [hsaid] at h1
      generalize scriptTo l k = P at *
      generalize hsg : segW (l.getD k (0, [])).1 (l.getD k (0, [])).2 P.length = S at *
      refine seg_says (l.getD k (0, [])).1 (l.getD k (0, [])).2 P.length _ g1 g2 ?_ (by rw [hsg, ← List.length_append]; omega) (by rw [hsg, ← List.length_append]; exact h1)
      rw [hsg, ht]
      refine ⟨by simp, fun i hi => ?_⟩
      rw [List.getD, List.getD, List.append_assoc, List.getElem?_append_right (by omega), show P.length + i - P.length = i by omega, List.getElem?_append_left hi]
  have := step l.length (Nat.le_refl _)
  rw [Nat.sub_self] at this
  simpa [scriptTo, saidTo] using this
end Go.Proofs.YtfmjkflihnfneaaDoor
