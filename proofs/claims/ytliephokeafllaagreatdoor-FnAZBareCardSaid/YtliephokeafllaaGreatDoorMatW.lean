/- gozxing.BitMatrix: a new one, a bit that is set, turned, read. -/
import Derived.Test.YtliephokeafllaaGreatDoorBitL
import Derived.Test.YtliephokeafllaaGreatDoorAzA
import Derived.BigQuiet
import Derived.Deep.QuietTactic
import Derived.KernelRfl
import Derived.Deep.RegionHeld3
import Derived.Deep.LoopGhost
namespace Go.Proofs.YtliephokeafllaaGreatDoor
open Go.RowKit
set_option linter.unusedVariables false

theorem infoU : (Tryz.prog.info? 146).map (fun i => (i.zero, i.size, i.bytes)) = some (some (.int .u32 0), 1, 4) := by kernel_rfl
theorem pow_mod {m : Nat} (h : 2 ^ m < 4294967296) : ((2 : Int) ^ m % 4294967296) = ((2 ^ m : Nat) : Int) := by
  have e : ((2 : Int) ^ m) = ((2 ^ m : Nat) : Int) := by rw [Int.natCast_pow]; rfl
  rw [e]
  generalize 2 ^ m = n at *
  omega

/-- A matrix in new memory is handed back, without an error. -/
def MatOut (W H rs : Nat) (B : Nat → Nat → Bool) (w : World) (e : Ending) (w' : World) : Prop :=
  ∃ q g ws, e = .returned (.tuple #[.pointer (some ⟨q, 0, none⟩), .nilIface]) ∧ w.heap.size ≤ g ∧ IsMat w' q g 145 146 W H rs ws B ∧ Below w.heap.size w w'

set_option maxRecDepth 20000 in
set_option maxHeartbeats 2000000 in
theorem newBits (W H rs : Nat) (w : World) (hW1 : 1 ≤ W) (hW : W ≤ 1000) (hH1 : 1 ≤ H) (hH : H ≤ 1000) (hrs : rs = (W + 31) / 32) :
    Calls Tryz.prog 52 #[.int .i64 W, .int .i64 H] w (MatOut W H rs (fun _ _ => false) w) := by
  obtain ⟨i4, hi4, hb0, hb1, hb2⟩ := info_of infoU
  have hrs2 : rs ≤ 32 := by omega
  obtain ⟨N, hN⟩ : ∃ N, N = rs * H := ⟨_, rfl⟩
  have hNb : N ≤ 32000 := by rw [hN]; exact Nat.mul_le_mul hrs2 hH
  have hmk := fun W => run_make (P := Tryz.prog) W 143 146 i4 (.int .u32 0) Tryz.underlying143 hi4 hb0 .i64 .i64 (N : Int) (N : Int) (by omega) (by omega) (by rw [hb2]; omega) (by omega)
  simp only [hb1] at hmk
  have e1 : ((W : Int) + 31) / 32 = (rs : Int) := by omega
  have e2 : IntKind.i64.wrap ((rs : Int) * (H : Int)) = (N : Int) := by
    rw [show (rs : Int) * (H : Int) = (N : Int) from by rw [hN]; simp]
    exact IntWalk.i64_in _ ⟨by omega, by omega⟩
  have HN := hid hN
  have HR := hid hrs
  clear hN hrs
  go_enter Tryz.func52, Tryz.ntmps52
  go_wp2
  go_ret2
  have h1 := Arr.made w 146 (.int .u32 0) N
  have h2 := Arr.of_new (w.alloc (.cells (madeCells #[.int .u32 0] N) 146)) 145 #[.int .i64 W, .int .i64 H, .int .i64 rs, .slice (some ⟨w.heap.size, 0, none⟩) N N]
  refine ⟨w.heap.size + 1, w.heap.size, List.replicate (rs * H) 0, ?_, Nat.le_refl _, ⟨?_, ?_, Shows.zero rs H, by omega, by have := HR.out; omega, by have := HR.out; omega⟩, ?_⟩
  · simp
  · rw [← HN.out]
    simpa using h2
  · rw [← HN.out]
    have := h1.alloc (.cells #[.int .i64 W, .int .i64 H, .int .i64 rs, .slice (some ⟨w.heap.size, 0, none⟩) N N] 145)
    simpa [u32s] using this
  · exact ((Below.refl _ _).alloc (Nat.le_refl _) _).alloc (by simp) _

section
variable {w : World} {q g W H rs : Nat} {ws : List Nat} {B : Nat → Nat → Bool}
theorem mat_facts (h : IsMat w q g 145 146 W H rs ws B) : w.cell? ⟨q, 0, none⟩ = some (.int .i64 W) ∧ w.cell? ⟨q, 1, none⟩ = some (.int .i64 H) ∧ w.cell? ⟨q, 2, none⟩ = some (.int .i64 rs) ∧ w.cell? ⟨q, 3, none⟩ = some (.slice (some ⟨g, 0, none⟩) (rs * H) (rs * H)) :=
  ⟨h.st.cell? 0, h.st.cell? 1, h.st.cell? 2, h.st.cell? 3⟩
end

set_option maxRecDepth 20000 in
set_option maxHeartbeats 2000000 in
theorem setBit (q g W H rs x y : Nat) (ws : List Nat) (B : Nat → Nat → Bool) (w : World) (h : IsMat w q g 145 146 W H rs ws B) (hx : x < 32 * rs) (hy : y < H) (hH : H ≤ 1000) (hrs : rs ≤ 32) :
    Calls Tryz.prog 53 #[.pointer (some ⟨q, 0, none⟩), .int .i64 x, .int .i64 y] w fun e w' => e = .returned (.tuple #[]) ∧ w' = w.setCell ⟨g, y * rs + x / 32, none⟩ (.int .u32 (ws.getD (y * rs + x / 32) 0 ||| 2 ^ (x % 32) : Nat)) := by
  obtain ⟨_, _, c2, c3⟩ := mat_facts h
  have hk := pl_lt hx hy
  have hwl := h.sh.lt (y * rs + x / 32)
  have c4 := u32s_at h.bits (y * rs + x / 32) (by rw [h.sh.len]; exact hk)
  have fz := h.bits.frozen (y * rs + x / 32)
  have hyr : y * rs ≤ 32000 := by have := Nat.mul_le_mul (show y ≤ 1000 by omega) hrs; omega
  have hN : rs * H ≤ 32000 := Nat.mul_le_mul hrs hH
  have hpl := pow_lt32 (Nat.mod_lt x (show 0 < 32 by omega))
  have ho := u32_or_nat (ws.getD (y * rs + x / 32) 0) (2 ^ (x % 32)) hwl hpl
  rw [← pow_mod hpl] at ho
  have e2 : IntKind.i64.wrap ((y : Int) * (rs : Int)) = ((y * rs : Nat) : Int) := by
    rw [show (y : Int) * (rs : Int) = ((y * rs : Nat) : Int) from by simp]
    exact IntWalk.i64_in _ ⟨by omega, by omega⟩
  have hx5 : x ≤ 1024 := by omega
  have e3 : (x : Int) / 32 = ((x / 32 : Nat) : Int) := by omega
  have e4 : (x : Int) % 32 = ((x % 32 : Nat) : Int) := by omega
  have hd : x / 32 ≤ 32 := by omega
  have hm : x % 32 < 32 := Nat.mod_lt _ (by omega)
  clear h hx hy
  generalize y * rs = P at *
  generalize rs * H = N at *
  generalize x / 32 = d at *
  generalize x % 32 = m at *
  generalize hww : ws.getD (P + d) 0 ||| 2 ^ m = v at *
  generalize ws.getD (P + d) 0 = wd at *
  have i1 : (P : Int) + (d : Int) < (N : Int) := by omega
  have i2 : ((P : Int) + (d : Int)).toNat = P + d := by omega
  have i3 : (0 : Int) ≤ (P : Int) + (d : Int) := by omega
  go_enter Tryz.func53, Tryz.ntmps53
  go_wp2
  go_end0
  exact ⟨rfl, rfl⟩

theorem bit_test (v m : Nat) (hv : v < 4294967296) : (bits .and .u32 ((v : Int) / 2 ^ m) 1 != 0) = v.testBit m := by
  have h1 : ((v : Int) / 2 ^ m) = ((v / 2 ^ m : Nat) : Int) := by rw [Int.natCast_ediv, Int.natCast_pow]; rfl
  have h2 : v / 2 ^ m < 4294967296 := Nat.lt_of_le_of_lt (Nat.div_le_self _ _) hv
  have h3 := u32_and_nat (v / 2 ^ m) 1 h2 (by omega)
  rw [h1, show (1 : Int) = ((1 : Nat) : Int) from rfl, h3, Nat.and_one_is_mod, Nat.testBit_eq_decide_div_mod_eq]
  have h4 := Nat.mod_lt (v / 2 ^ m) (show 0 < 2 by omega)
  generalize v / 2 ^ m % 2 = u at *
  have h5 : u = 0 ∨ u = 1 := by omega
  rcases h5 with rfl | rfl <;> rfl

set_option maxRecDepth 20000 in
set_option maxHeartbeats 2000000 in
theorem getBit (q g W H rs x y : Nat) (ws : List Nat) (B : Nat → Nat → Bool) (w : World) (h : IsMat w q g 145 146 W H rs ws B) (hx : x < W) (hy : y < H) (hH : H ≤ 1000) (hrs : rs ≤ 32) :
    Calls Tryz.prog 57 #[.pointer (some ⟨q, 0, none⟩), .int .i64 x, .int .i64 y] w fun e w' => e = .returned (.bool (B x y)) ∧ w = w' := by
  obtain ⟨c0, c1, c2, c3⟩ := mat_facts h
  have hx0 : x < 32 * rs := Nat.lt_of_lt_of_le hx h.wr
  have hk := pl_lt hx0 hy
  have hwl := h.sh.lt (y * rs + x / 32)
  have c4 := u32s_at h.bits (y * rs + x / 32) (by rw [h.sh.len]; exact hk)
  have hyr : y * rs ≤ 32000 := by have := Nat.mul_le_mul (show y ≤ 1000 by omega) hrs; omega
  have hN : rs * H ≤ 32000 := Nat.mul_le_mul hrs hH
  have hbt := bit_test (ws.getD (y * rs + x / 32) 0) (x % 32) hwl
  rw [h.sh.bit x y hx0 hy] at hbt
  have e2 : IntKind.i64.wrap ((y : Int) * (rs : Int)) = ((y * rs : Nat) : Int) := by
    rw [show (y : Int) * (rs : Int) = ((y * rs : Nat) : Int) from by simp]
    exact IntWalk.i64_in _ ⟨by omega, by omega⟩
  have hx5 : x ≤ 1024 := by omega
  have e3 : (x : Int) / 32 = ((x / 32 : Nat) : Int) := by omega
  have e4 : (x : Int) % 32 = ((x % 32 : Nat) : Int) := by omega
  have hd : x / 32 ≤ 32 := by omega
  have hm : x % 32 < 32 := Nat.mod_lt _ (by omega)
  have hxW : (x : Int) < (W : Int) := by omega
  have hyH : (y : Int) < (H : Int) := by omega
  clear h hx hy hx0
  generalize B x y = b at *
  generalize y * rs = P at *
  generalize rs * H = N at *
  generalize x / 32 = d at *
  generalize x % 32 = m at *
  generalize ws.getD (P + d) 0 = wd at *
  have i1 : (P : Int) + (d : Int) < (N : Int) := by omega
  have i2 : ((P : Int) + (d : Int)).toNat = P + d := by omega
  have i3 : (0 : Int) ≤ (P : Int) + (d : Int) := by omega
  go_enter Tryz.func57, Tryz.ntmps57
  go_wp2
  go_ret
  exact ⟨rfl, rfl⟩

end Go.Proofs.YtliephokeafllaaGreatDoor
