/- Words of bits, stuffed, as the writer of an Aztec symbol makes them. Plain. -/
import Derived.Test.YtliephokeafllaaGreatDoorAzP
namespace Go.Proofs.YtliephokeafllaaGreatDoor

/-- n bits from i on as a number; behind the end there are ones. -/
def hiAt (b : List Bool) (i : Nat) : Nat → Nat
  | 0 => 0
  | n + 1 => 2 * hiAt b i n + (if b.getD (i + n) true then 1 else 0)
theorem hiAt_lt (b : List Bool) (i : Nat) : ∀ n, hiAt b i n < 2 ^ n
  | 0 => by simp [hiAt]
  | n + 1 => by
    have := hiAt_lt b i n
    rw [hiAt, Nat.pow_succ]
    split <;> omega
def stuffW (b : List Bool) (w i : Nat) : Nat :=
  if hiAt b i (w - 1) = 0 then 1 else if hiAt b i (w - 1) = 2 ^ (w - 1) - 1 then 2 * hiAt b i (w - 1) else 2 * hiAt b i (w - 1) + (if b.getD (i + (w - 1)) true then 1 else 0)
def stuffI (b : List Bool) (w i : Nat) : Nat :=
  if hiAt b i (w - 1) = 0 then i + (w - 1) else if hiAt b i (w - 1) = 2 ^ (w - 1) - 1 then i + (w - 1) else i + (w - 1) + 1
theorem stuffW_lt (b : List Bool) {w : Nat} (i : Nat) (hw : 2 ≤ w) : stuffW b w i < 2 ^ w := by
  have := hiAt_lt b i (w - 1)
  have e : 2 ^ w = 2 * 2 ^ (w - 1) := by rw [Nat.mul_comm, ← Nat.pow_succ]; congr 1; omega
  have h1 : 2 ≤ 2 ^ (w - 1) := by
    have := Nat.pow_le_pow_right (n := 2) (by omega) (show 1 ≤ w - 1 by omega)
    simpa using this
  unfold stuffW
  rw [e]
  split
  · omega
  split
  · omega
  split <;> omega
theorem stuffI_lt (b : List Bool) {w : Nat} (i : Nat) : i + (w - 1) ≤ stuffI b w i ∧ stuffI b w i ≤ i + (w - 1) + 1 := by
  unfold stuffI
  split
  · omega
  split <;> omega
/-- The words and the place behind t words. -/
def stuffTo (b : List Bool) (w : Nat) : Nat → List Nat × Nat
  | 0 => ([], 0)
  | t + 1 => ((stuffTo b w t).1 ++ [stuffW b w (stuffTo b w t).2], stuffI b w (stuffTo b w t).2)
theorem stuffTo_len (b : List Bool) (w : Nat) : ∀ t, (stuffTo b w t).1.length = t
  | 0 => rfl
  | t + 1 => by simp [stuffTo, stuffTo_len b w t]
theorem stuffTo_lt (b : List Bool) {w : Nat} (hw : 2 ≤ w) : ∀ t, ∀ x ∈ (stuffTo b w t).1, x < 2 ^ w
  | 0, x, h => by cases h
  | t + 1, x, h => by
    rcases List.mem_append.1 h with h | h
    · exact stuffTo_lt b hw t x h
    · rw [List.mem_singleton.1 h]; exact stuffW_lt b _ hw
theorem stuffTo_pos (b : List Bool) {w : Nat} : ∀ t, t * (w - 1) ≤ (stuffTo b w t).2 ∧ (stuffTo b w t).2 ≤ t * (w - 1) + t
  | 0 => by simp [stuffTo]
  | t + 1 => by
    have h1 := stuffTo_pos b (w := w) t
    have h2 := stuffI_lt b (w := w) (stuffTo b w t).2
    rw [stuffTo, Nat.add_mul]
    simp only
    omega
/-- All words: t of them, and no bit is left. -/
def Stuffed (b : List Bool) (w t : Nat) : Prop := b.length ≤ (stuffTo b w t).2 ∧ ∀ s, s < t → (stuffTo b w s).2 < b.length
/-- Words laid as bits, behind r bits that are not used. -/
def layBits (r w : Nat) (l : List Nat) : List Bool := List.replicate r false ++ (l.map fun x => putBits x w).flatten
theorem layBits_len (r w : Nat) (l : List Nat) : (layBits r w l).length = r + w * l.length := by
  unfold layBits
  rw [List.length_append, List.length_replicate]
  congr 1
  induction l with
  | nil => rfl
  | cons a l ih => simp only [List.map_cons, List.flatten_cons, List.length_append, putBits_len, List.length_cons, ih, Nat.mul_add]; omega
theorem layBits_next (r w : Nat) (l : List Nat) (k : Nat) (hk : k < l.length) : layBits r w (l.take (k + 1)) = layBits r w (l.take k) ++ putBits (l.getD k 0) w := by
  unfold layBits
  rw [List.take_succ_eq_append_getElem hk, List.map_append, List.flatten_append, List.append_assoc]
  simp [List.getD, List.getElem?_eq_getElem hk]
end Go.Proofs.YtliephokeafllaaGreatDoor
