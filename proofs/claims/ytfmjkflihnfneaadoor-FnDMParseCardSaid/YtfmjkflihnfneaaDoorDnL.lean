/- Data Matrix: the words of segments, as the writer makes them, in lists. Plain. -/
import Derived.WalkKit
namespace Go.Proofs.YtfmjkflihnfneaaDoor
set_option linter.unusedVariables false

def isDig (c : Nat) : Bool := decide (48 ≤ c) && decide (c ≤ 57)
/-- A text in the mode ASCII. -/
def asciiW : List Nat → List Nat
  | [] => []
  | [a] => [a + 1]
  | a :: b :: t => if isDig a && isDig b then (130 + 10 * (a - 48) + (b - 48)) :: asciiW t else (a + 1) :: asciiW (b :: t)
/-- The values of a byte in the modes C40 and Text. -/
def dmVals (c : Nat) (lower : Bool) : List Nat :=
  if c = 32 then [3] else if isDig c = true then [c - 44] else if c < 32 then [0, c] else if c ≤ 47 then [1, c - 33] else if c ≤ 64 then [1, c - 43]
  else if c ≤ 90 then (if lower = true then [2, c - 64] else [c - 51]) else if c ≤ 95 then [1, c - 69] else if 97 ≤ c ∧ c ≤ 122 ∧ lower = true then [c - 83] else [2, c - 96]
def x12V (c : Nat) : Nat := if c = 13 then 0 else if c = 42 then 1 else if c = 62 then 2 else if c = 32 then 3 else if isDig c = true then c - 44 else c - 51
def x12Ok (c : Nat) : Bool := c == 13 || c == 42 || c == 62 || c == 32 || isDig c || (decide (65 ≤ c) && decide (c ≤ 90))
/-- The values of a byte in the modes C40 (1), Text (2), X12 (3). -/
def thrV (m c : Nat) : List Nat := if m = 3 then [x12V c] else dmVals c (m == 2)
def thrAll (m : Nat) (s : List Nat) : List Nat := (s.map (thrV m)).flatten
/-- Of the first i bytes as many as make threes, and how many values they have. -/
def bestTo (m : Nat) (s : List Nat) : Nat → Nat × Nat
  | 0 => (0, 0)
  | i + 1 => if (thrAll m (s.take (i + 1))).length % 3 = 0 then (i + 1, (thrAll m (s.take (i + 1))).length) else bestTo m s i
def triW : List Nat → List Nat
  | a :: b :: c :: t => (1600 * a + 40 * b + c + 1) / 256 :: (1600 * a + 40 * b + c + 1) % 256 :: triW t
  | _ => []
def latchOf (m : Nat) : Nat := if m = 2 then 239 else if m = 3 then 238 else 230
def threeW (m : Nat) (s : List Nat) : List Nat :=
  if (bestTo m s s.length).1 = 0 then asciiW s else latchOf m :: (triW ((thrAll m s).take (bestTo m s s.length).2) ++ 254 :: asciiW (s.drop (bestTo m s s.length).1))
/-- Six bits of each byte, and the unlatch. -/
def sixV (s : List Nat) (i : Nat) : Nat := if i < s.length then s.getD i 0 % 64 else 31
def sixTo (v : Nat → Nat) : Nat → Nat × Nat × List Nat
  | 0 => (0, 0, [])
  | i + 1 =>
    let r := sixTo v i
    if 8 ≤ r.2.1 + 6 then ((64 * r.1 + v i) % 2 ^ (r.2.1 - 2), r.2.1 - 2, r.2.2 ++ [(64 * r.1 + v i) / 2 ^ (r.2.1 - 2)]) else (64 * r.1 + v i, r.2.1 + 6, r.2.2)
def sixAll (v : Nat → Nat) (n : Nat) : List Nat :=
  if (sixTo v n).2.1 = 0 then (sixTo v n).2.2 else (sixTo v n).2.2 ++ [(sixTo v n).1 * 2 ^ (8 - (sixTo v n).2.1)]
def sixW (s : List Nat) : List Nat := 240 :: sixAll (sixV s) (s.length + 1)
/-- A byte of Base 256 at a place. -/
def mix (c place : Nat) : Nat := (c + 149 * place % 255 + 1) % 256
def lenW (n : Nat) : List Nat := if 249 < n then [n / 250 + 249, n % 250] else [n]
def mixTo (l : List Nat) (before : Nat) : List Nat := (List.range l.length).map fun i => mix (l.getD i 0) (before + 2 + i)
def byteW (s : List Nat) (before : Nat) : List Nat := 231 :: mixTo (lenW s.length ++ s) before
/-- The words of one segment behind so many others. -/
def segW (m : Nat) (s : List Nat) (before : Nat) : List Nat :=
  if s = [] then [] else if m = 0 then asciiW s else if m = 4 then sixW s else if m = 5 then byteW s before else threeW m s
def inMode (m : Nat) (s : List Nat) : Bool := decide (m ≤ 5) && s.all fun c => decide (c ≤ 127) && (!(m == 3) || x12Ok c) && (!(m == 4) || (decide (32 ≤ c) && decide (c ≤ 94)))
def scriptTo (l : List (Nat × List Nat)) : Nat → List Nat
  | 0 => []
  | k + 1 => scriptTo l k ++ segW (l.getD k (0, [])).1 (l.getD k (0, [])).2 (scriptTo l k).length
def saidTo (l : List (Nat × List Nat)) (k : Nat) : List Nat := ((l.take k).map (·.2)).flatten
/-- Pads. -/
def padN (len n : Nat) : Nat := if n = len then 129 else if 254 < 149 * (n + 1) % 253 + 130 then 149 * (n + 1) % 253 + 130 - 254 else 149 * (n + 1) % 253 + 130
def padW (l : List Nat) (many : Nat) : List Nat := l ++ (List.range (many - l.length)).map fun i => padN l.length (l.length + i)

/-- One value of C40 (1), Text (2), X12 (3), and what it says: the set that the next one is of. -/
def set2L : List Nat := [33, 34, 35, 36, 37, 38, 39, 40, 41, 42, 43, 44, 45, 46, 47, 58, 59, 60, 61, 62, 63, 64, 91, 92, 93, 94, 95]
def basL (m : Nat) : List Nat := if m = 2 then [42, 42, 42, 32] ++ (List.range 10).map (48 + ·) ++ (List.range 26).map (97 + ·) else [42, 42, 42, 32] ++ (List.range 10).map (48 + ·) ++ (List.range 26).map (65 + ·)
def set3L : List Nat := [96] ++ (List.range 26).map (65 + ·) ++ [123, 124, 125, 126, 127]
def x12C (v : Nat) : Nat := if v = 0 then 13 else if v = 1 then 42 else if v = 2 then 62 else if v = 3 then 32 else if v < 14 then v + 44 else v + 51
def vStep (m sh v : Nat) : Nat × List Nat :=
  if m = 3 then (0, [x12C v])
  else if sh = 0 then (if v < 3 then (v + 1, []) else (0, [(basL m).getD v 0]))
  else if sh = 1 then (0, [v])
  else if sh = 2 then (0, [set2L.getD v 0])
  else (0, [if m = 2 then set3L.getD v 0 else v + 96])
/-- A value that may stand there. -/
def vOk (m sh v : Nat) : Bool := decide (v < 40) && (m == 3 || sh == 0 || sh == 1 || (sh == 2 && decide (v < 27)) || (sh == 3 && decide (v < 32)))
def vRun (m : Nat) : Nat × List Nat → List Nat → Nat × List Nat
  | st, [] => st
  | st, v :: t => vRun m ((vStep m st.1 v).1, st.2 ++ (vStep m st.1 v).2) t
def vAllOk (m : Nat) : Nat → List Nat → Bool
  | _, [] => true
  | sh, v :: t => vOk m sh v && vAllOk m (vStep m sh v).1 t
theorem vRun_app (m : Nat) : ∀ (a b : List Nat) (st : Nat × List Nat), vRun m st (a ++ b) = vRun m (vRun m st a) b
  | [], b, st => rfl
  | x :: a, b, st => by simp only [List.cons_append, vRun]; exact vRun_app m a b _
theorem vAllOk_app (m : Nat) : ∀ (a b : List Nat) (sh : Nat) (o : List Nat), vAllOk m sh (a ++ b) = (vAllOk m sh a && vAllOk m (vRun m (sh, o) a).1 b)
  | [], b, sh, o => by simp [vAllOk, vRun]
  | x :: a, b, sh, o => by simp only [List.cons_append, vAllOk, vRun]; rw [vAllOk_app m a b _ (o ++ (vStep m sh x).2), Bool.and_assoc]
theorem one_fin : ((List.range 4).all fun m => (List.range 128).all fun c => m == 0 || (m == 3 && !x12Ok c) || (vAllOk m 0 (thrV m c) && decide (vRun m (0, []) (thrV m c) = (0, [c])) && decide ((thrV m c).length ≤ 2) && decide (1 ≤ (thrV m c).length))) = true := by decide +kernel
theorem one_ok (m c : Nat) (hm1 : 1 ≤ m) (hm3 : m ≤ 3) (hc : c ≤ 127) (hx : m = 3 → x12Ok c = true) : vAllOk m 0 (thrV m c) = true ∧ vRun m (0, []) (thrV m c) = (0, [c]) ∧ (thrV m c).length ≤ 2 ∧ 1 ≤ (thrV m c).length := by
  have h := List.all_eq_true.1 (List.all_eq_true.1 one_fin m (List.mem_range.2 (by omega))) c (List.mem_range.2 (by omega))
  simp only [Bool.or_eq_true, Bool.and_eq_true, decide_eq_true_eq, beq_iff_eq, Bool.not_eq_true'] at h
  rcases h with (h | h) | h
  · omega
  · rw [hx h.1] at h; exact absurd h.2 (by simp)
  · exact ⟨h.1.1.1, h.1.1.2, h.1.2, h.2⟩
theorem vRun_pre (m : Nat) : ∀ (l : List Nat) (sh : Nat) (o : List Nat), vRun m (sh, o) l = ((vRun m (sh, []) l).1, o ++ (vRun m (sh, []) l).2)
  | [], sh, o => by simp [vRun]
  | v :: t, sh, o => by
    simp only [vRun]
    rw [vRun_pre m t _ (o ++ (vStep m sh v).2), vRun_pre m t _ ([] ++ (vStep m sh v).2)]
    simp
theorem all_ok (m : Nat) (hm1 : 1 ≤ m) (hm3 : m ≤ 3) : ∀ (s : List Nat) (o : List Nat), (∀ c ∈ s, c ≤ 127 ∧ (m = 3 → x12Ok c = true)) → vAllOk m 0 (thrAll m s) = true ∧ vRun m (0, o) (thrAll m s) = (0, o ++ s)
  | [], o, _ => by simp [thrAll, vAllOk, vRun]
  | c :: s, o, h => by
    obtain ⟨h1, h2, _, _⟩ := one_ok m c hm1 hm3 (h c (by simp)).1 (h c (by simp)).2
    obtain ⟨h3, h4⟩ := all_ok m hm1 hm3 s (o ++ [c]) (fun x hx => h x (by simp [hx]))
    have e : thrAll m (c :: s) = thrV m c ++ thrAll m s := by simp [thrAll]
    have e2 : vRun m (0, o) (thrV m c) = (0, o ++ [c]) := by rw [vRun_pre, h2]
    rw [e]
    constructor
    · rw [vAllOk_app m _ _ 0 o, h1, e2]
      simpa using h3
    · rw [vRun_app, e2, h4]; simp
theorem best_ok (m : Nat) (s : List Nat) : ∀ i, i ≤ s.length → (bestTo m s i).1 ≤ i ∧ (bestTo m s i).2 = (thrAll m (s.take (bestTo m s i).1)).length ∧ (bestTo m s i).2 % 3 = 0
  | 0, _ => by simp [bestTo, thrAll]
  | i + 1, h => by
    unfold bestTo
    split
    · rename_i h3
      exact ⟨Nat.le_refl _, rfl, h3⟩
    · obtain ⟨h1, h2, h3⟩ := best_ok m s i (by omega)
      exact ⟨by omega, h2, h3⟩
theorem thrAll_take (m : Nat) (s : List Nat) (k : Nat) : (thrAll m s).take (thrAll m (s.take k)).length = thrAll m (s.take k) := by
  have e : thrAll m s = thrAll m (s.take k) ++ thrAll m (s.drop k) := by
    unfold thrAll
    rw [← List.flatten_append, ← List.map_append, List.take_append_drop]
  conv => lhs; rw [e]
  rw [List.take_left']
  rfl
end Go.Proofs.YtfmjkflihnfneaaDoor
