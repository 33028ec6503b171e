/- Bits in words of 32, row by row. Plain Lean. -/
import Derived.Test.YtliephokeafllaaGreatDoorGrid
import Derived.Test.YtliephokeafllaaGreatDoorBits
namespace Go.Proofs.YtliephokeafllaaGreatDoor
open Go.RowKit
set_option linter.unusedVariables false

theorem getD_set2 (l : List Nat) (k j v : Nat) (hk : k < l.length) : (l.set k v).getD j 0 = if j = k then v else l.getD j 0 := by
  by_cases hjk : j = k
  · subst hjk
    rw [if_pos rfl, List.getD, List.getElem?_set_self hk]
    rfl
  · rw [if_neg hjk, List.getD, List.getElem?_set_ne (fun e => hjk e.symm), List.getD]
/-- Words that show the bits B, each row in rs words. -/
structure Shows (rs H : Nat) (ws : List Nat) (B : Nat → Nat → Bool) : Prop where
  len : ws.length = rs * H
  lt : ∀ k, ws.getD k 0 < 4294967296
  bit : ∀ x y, x < 32 * rs → y < H → (ws.getD (y * rs + x / 32) 0).testBit (x % 32) = B x y
def put2 (B : Nat → Nat → Bool) (x y : Nat) (b : Bool) : Nat → Nat → Bool := fun i j => if i = x ∧ j = y then b else B i j
theorem pl_lt {rs H x y : Nat} (hx : x < 32 * rs) (hy : y < H) : y * rs + x / 32 < rs * H := by
  have h1 : x / 32 < rs := by omega
  have h2 : (y + 1) * rs ≤ H * rs := Nat.mul_le_mul_right _ (by omega)
  rw [Nat.add_mul, Nat.one_mul] at h2
  rw [Nat.mul_comm rs H]
  omega
theorem pl_inj {rs x y x' y' : Nat} (hx : x < 32 * rs) (hx' : x' < 32 * rs) (e : y * rs + x / 32 = y' * rs + x' / 32) : y = y' ∧ x / 32 = x' / 32 := by
  have h1 : x / 32 < rs := by omega
  have h2 : x' / 32 < rs := by omega
  have e1 := congrArg (· / rs) e
  have e2 := congrArg (· % rs) e
  simp only [Nat.mul_add_mod', Nat.mod_eq_of_lt h1, Nat.mod_eq_of_lt h2] at e2
  have h0 : 0 < rs := by omega
  rw [Nat.mul_comm y, Nat.mul_comm y', Nat.mul_add_div h0, Nat.mul_add_div h0, Nat.div_eq_of_lt h1, Nat.div_eq_of_lt h2] at e1
  exact ⟨by omega, e2⟩
section
variable {rs H : Nat} {ws : List Nat} {B : Nat → Nat → Bool}
theorem Shows.upd (h : Shows rs H ws B) {x y v : Nat} (hx : x < 32 * rs) (hy : y < H) (hv : v < 4294967296) {b : Bool} (hb : ∀ i, i < 32 → v.testBit i = if i = x % 32 then b else (ws.getD (y * rs + x / 32) 0).testBit i) :
    Shows rs H (ws.set (y * rs + x / 32) v) (put2 B x y b) := by
  have hk : y * rs + x / 32 < ws.length := by rw [h.len]; exact pl_lt hx hy
  refine ⟨by rw [List.length_set, h.len], fun k => ?_, fun i j hi hj => ?_⟩
  · rw [getD_set2 _ _ _ _ hk]
    split
    · exact hv
    · exact h.lt k
  · rw [getD_set2 _ _ _ _ hk]
    unfold put2
    by_cases e : j * rs + i / 32 = y * rs + x / 32
    · obtain ⟨e1, e2⟩ := pl_inj hi hx e
      rw [if_pos e, hb _ (Nat.mod_lt _ (by omega))]
      by_cases e3 : i % 32 = x % 32
      · rw [if_pos e3, if_pos ⟨by omega, e1⟩]
      · rw [if_neg e3, if_neg (fun hh => e3 (by rw [hh.1])), ← h.bit i j hi hj, e]
    · rw [if_neg e, if_neg (fun hh => e (by rw [hh.1, hh.2])), h.bit i j hi hj]
theorem Shows.zero (rs H : Nat) : Shows rs H (List.replicate (rs * H) 0) (fun _ _ => false) := by
  have h0 : ∀ k, (List.replicate (rs * H) 0).getD k 0 = 0 := fun k => by
    rcases Nat.lt_or_ge k (rs * H) with h1 | h1
    · simp [List.getD, h1]
    · rw [List.getD, List.getElem?_eq_none (by simpa using h1)]; rfl
  exact ⟨by simp, fun k => by rw [h0]; omega, fun x y _ _ => by rw [h0]; simp⟩
theorem or_bit_at (w k i : Nat) : (w ||| 2 ^ k).testBit i = if i = k then true else w.testBit i := by
  rw [Nat.testBit_or, Nat.testBit_two_pow]
  by_cases h : i = k
  · simp [h]
  · simp [h, Ne.symm h]
theorem xor_bit_at (w k i : Nat) : (w ^^^ 2 ^ k).testBit i = if i = k then !w.testBit i else w.testBit i := by
  rw [Nat.testBit_xor, Nat.testBit_two_pow]
  by_cases h : i = k
  · simp [h]
  · simp [h, Ne.symm h]
theorem pow_lt32 {k : Nat} (hk : k < 32) : 2 ^ k < 4294967296 := Nat.pow_lt_pow_right (a := 2) (n := 32) (by omega) hk
theorem Shows.setOn (h : Shows rs H ws B) {x y : Nat} (hx : x < 32 * rs) (hy : y < H) : Shows rs H (ws.set (y * rs + x / 32) (ws.getD (y * rs + x / 32) 0 ||| 2 ^ (x % 32))) (put2 B x y true) :=
  h.upd hx hy (Nat.or_lt_two_pow (n := 32) (h.lt _) (pow_lt32 (Nat.mod_lt _ (by omega)))) (fun i _ => or_bit_at _ _ i)
theorem Shows.flip (h : Shows rs H ws B) {x y : Nat} (hx : x < 32 * rs) (hy : y < H) : Shows rs H (ws.set (y * rs + x / 32) (ws.getD (y * rs + x / 32) 0 ^^^ 2 ^ (x % 32))) (put2 B x y (!B x y)) :=
  h.upd hx hy (Nat.xor_lt_two_pow (n := 32) (h.lt _) (pow_lt32 (Nat.mod_lt _ (by omega)))) (fun i _ => by
    rw [xor_bit_at, ← h.bit x y hx hy]
    split
    · rename_i e; rw [e]
    · rfl)
theorem Shows.congr (h : Shows rs H ws B) {C : Nat → Nat → Bool} (e : ∀ x y, x < 32 * rs → y < H → B x y = C x y) : Shows rs H ws C :=
  ⟨h.len, h.lt, fun x y hx hy => by rw [h.bit x y hx hy, e x y hx hy]⟩
end
def u32s (ws : List Nat) : List Value := ws.map fun (x : Nat) => Value.int .u32 x
theorem u32s_len (ws : List Nat) : (u32s ws).length = ws.length := by simp [u32s]
theorem u32s_set (ws : List Nat) (k v : Nat) : (u32s ws).set k (.int .u32 v) = u32s (ws.set k v) := by simp [u32s]
theorem u32s_at {w : World} {g t : Nat} {ws : List Nat} (h : Arr w g t (u32s ws)) (k : Nat) (hk : k < ws.length) : w.cell? ⟨g, k, none⟩ = some (.int .u32 (ws.getD k 0 : Nat)) := by
  rw [h.cell? k]
  simp [u32s, List.getD, List.getElem?_eq_getElem hk]

/-- A matrix of bits in memory: W wide, H high. -/
structure IsMat (w : World) (q g tB tU W H rs : Nat) (ws : List Nat) (B : Nat → Nat → Bool) : Prop where
  st : Arr w q tB [.int .i64 W, .int .i64 H, .int .i64 rs, .slice (some ⟨g, 0, none⟩) (rs * H) (rs * H)]
  bits : Arr w g tU (u32s ws)
  sh : Shows rs H ws B
  gq : g < q
  wr : W ≤ 32 * rs
  rw_ : 32 * rs ≤ W + 31
section
variable {w w' : World} {q g tB tU W H rs : Nat} {ws : List Nat} {B : Nat → Nat → Bool}
theorem IsMat.below {C : Nat} (h : IsMat w q g tB tU W H rs ws B) (hb : Below C w w') (hC : q < C) : IsMat w' q g tB tU W H rs ws B :=
  ⟨h.st.below hb hC, h.bits.below hb (Nat.lt_trans h.gq hC), h.sh, h.gq, h.wr, h.rw_⟩
theorem IsMat.drewN (h : IsMat w q g tB tU W H rs ws B) (n : Nat) : IsMat (w.drewN n) q g tB tU W H rs ws B := ⟨h.st, h.bits, h.sh, h.gq, h.wr, h.rw_⟩
theorem IsMat.put (h : IsMat w q g tB tU W H rs ws B) {k v : Nat} {B' : Nat → Nat → Bool} (hs : Shows rs H (ws.set k v) B') : IsMat (w.setCell ⟨g, k, none⟩ (.int .u32 v)) q g tB tU W H rs (ws.set k v) B' :=
  ⟨h.st.far (by have := h.gq; simp; omega) _, by rw [← u32s_set]; exact h.bits.set k _, hs, h.gq, h.wr, h.rw_⟩
theorem IsMat.congr (h : IsMat w q g tB tU W H rs ws B) {C : Nat → Nat → Bool} (e : ∀ x y, x < 32 * rs → y < H → B x y = C x y) : IsMat w q g tB tU W H rs ws C :=
  ⟨h.st, h.bits, h.sh.congr e, h.gq, h.wr, h.rw_⟩
theorem IsMat.lt (h : IsMat w q g tB tU W H rs ws B) : q < w.heap.size := h.st.lt
end
end Go.Proofs.YtliephokeafllaaGreatDoor
