/- math/bits.TrailingZeros32. -/
import Derived.Test.YtmaghlckgfihcaaDoorTzL
import Derived.Test.YtmaghlckgfihcaaDoorArrW
namespace Go.Proofs.YtmaghlckgfihcaaDoor
open Go.RowKit
set_option linter.unusedVariables false

/-- The table lies in its variable. -/
def Tab (w : World) : Prop := ∀ j, j < 32 → w.cell? ⟨0, j, none⟩ = some (.int .u8 (tzTab.getD j 0 : Nat))
theorem Tab.below {B : Nat} {w w' : World} (h : Tab w) (hb : Below B w w') (hB : 0 < B) : Tab w' := fun j hj => by
  rw [hb.cell (p := ⟨0, j, none⟩) hB]; exact h j hj

theorem low_bits (v p : Nat) (hv : v < 4294967296) (h : v &&& (2 ^ 32 - v) = p) (h0 : v ≠ 0) : bits .and .u32 (v : Int) (-(v : Int) % 4294967296) = (p : Int) := by
  have e : (2 : Nat) ^ 32 = 4294967296 := by decide
  rw [e] at h
  have e2 : -(v : Int) % 4294967296 = ((4294967296 - v : Nat) : Int) := by omega
  rw [e2, u32_and_nat v _ hv (by omega), h]
def TzOut (k : Nat) (w : World) (e : Ending) (w' : World) : Prop := e = .returned (.int .i64 k) ∧ w = w'
set_option maxRecDepth 20000 in
theorem tz_0 (v : Nat) (w : World) (hne : ¬ v = 0) (hc : w.cell? ⟨0, 0, none⟩ = some (.int .u8 0)) (hA : bits .and .u32 (v : Int) (-(v : Int) % 4294967296) = 1) :
    Calls Tryd.prog 12 #[.int .u32 v] w (TzOut 0 w) := by
  go_enter Tryd.func12, Tryd.ntmps12
  go_wp2
  go_ret
  exact ⟨rfl, rfl⟩
set_option maxRecDepth 20000 in
theorem tz_1 (v : Nat) (w : World) (hne : ¬ v = 0) (hc : w.cell? ⟨0, 1, none⟩ = some (.int .u8 1)) (hA : bits .and .u32 (v : Int) (-(v : Int) % 4294967296) = 2) :
    Calls Tryd.prog 12 #[.int .u32 v] w (TzOut 1 w) := by
  go_enter Tryd.func12, Tryd.ntmps12
  go_wp2
  go_ret
  exact ⟨rfl, rfl⟩
set_option maxRecDepth 20000 in
theorem tz_2 (v : Nat) (w : World) (hne : ¬ v = 0) (hc : w.cell? ⟨0, 3, none⟩ = some (.int .u8 2)) (hA : bits .and .u32 (v : Int) (-(v : Int) % 4294967296) = 4) :
    Calls Tryd.prog 12 #[.int .u32 v] w (TzOut 2 w) := by
  go_enter Tryd.func12, Tryd.ntmps12
  go_wp2
  go_ret
  exact ⟨rfl, rfl⟩
set_option maxRecDepth 20000 in
theorem tz_3 (v : Nat) (w : World) (hne : ¬ v = 0) (hc : w.cell? ⟨0, 7, none⟩ = some (.int .u8 3)) (hA : bits .and .u32 (v : Int) (-(v : Int) % 4294967296) = 8) :
    Calls Tryd.prog 12 #[.int .u32 v] w (TzOut 3 w) := by
  go_enter Tryd.func12, Tryd.ntmps12
  go_wp2
  go_ret
  exact ⟨rfl, rfl⟩
set_option maxRecDepth 20000 in
theorem tz_4 (v : Nat) (w : World) (hne : ¬ v = 0) (hc : w.cell? ⟨0, 14, none⟩ = some (.int .u8 4)) (hA : bits .and .u32 (v : Int) (-(v : Int) % 4294967296) = 16) :
    Calls Tryd.prog 12 #[.int .u32 v] w (TzOut 4 w) := by
  go_enter Tryd.func12, Tryd.ntmps12
  go_wp2
  go_ret
  exact ⟨rfl, rfl⟩
set_option maxRecDepth 20000 in
theorem tz_5 (v : Nat) (w : World) (hne : ¬ v = 0) (hc : w.cell? ⟨0, 29, none⟩ = some (.int .u8 5)) (hA : bits .and .u32 (v : Int) (-(v : Int) % 4294967296) = 32) :
    Calls Tryd.prog 12 #[.int .u32 v] w (TzOut 5 w) := by
  go_enter Tryd.func12, Tryd.ntmps12
  go_wp2
  go_ret
  exact ⟨rfl, rfl⟩
set_option maxRecDepth 20000 in
theorem tz_6 (v : Nat) (w : World) (hne : ¬ v = 0) (hc : w.cell? ⟨0, 27, none⟩ = some (.int .u8 6)) (hA : bits .and .u32 (v : Int) (-(v : Int) % 4294967296) = 64) :
    Calls Tryd.prog 12 #[.int .u32 v] w (TzOut 6 w) := by
  go_enter Tryd.func12, Tryd.ntmps12
  go_wp2
  go_ret
  exact ⟨rfl, rfl⟩
set_option maxRecDepth 20000 in
theorem tz_7 (v : Nat) (w : World) (hne : ¬ v = 0) (hc : w.cell? ⟨0, 23, none⟩ = some (.int .u8 7)) (hA : bits .and .u32 (v : Int) (-(v : Int) % 4294967296) = 128) :
    Calls Tryd.prog 12 #[.int .u32 v] w (TzOut 7 w) := by
  go_enter Tryd.func12, Tryd.ntmps12
  go_wp2
  go_ret
  exact ⟨rfl, rfl⟩
set_option maxRecDepth 20000 in
theorem tz_8 (v : Nat) (w : World) (hne : ¬ v = 0) (hc : w.cell? ⟨0, 15, none⟩ = some (.int .u8 8)) (hA : bits .and .u32 (v : Int) (-(v : Int) % 4294967296) = 256) :
    Calls Tryd.prog 12 #[.int .u32 v] w (TzOut 8 w) := by
  go_enter Tryd.func12, Tryd.ntmps12
  go_wp2
  go_ret
  exact ⟨rfl, rfl⟩
set_option maxRecDepth 20000 in
theorem tz_9 (v : Nat) (w : World) (hne : ¬ v = 0) (hc : w.cell? ⟨0, 31, none⟩ = some (.int .u8 9)) (hA : bits .and .u32 (v : Int) (-(v : Int) % 4294967296) = 512) :
    Calls Tryd.prog 12 #[.int .u32 v] w (TzOut 9 w) := by
  go_enter Tryd.func12, Tryd.ntmps12
  go_wp2
  go_ret
  exact ⟨rfl, rfl⟩
set_option maxRecDepth 20000 in
theorem tz_10 (v : Nat) (w : World) (hne : ¬ v = 0) (hc : w.cell? ⟨0, 30, none⟩ = some (.int .u8 10)) (hA : bits .and .u32 (v : Int) (-(v : Int) % 4294967296) = 1024) :
    Calls Tryd.prog 12 #[.int .u32 v] w (TzOut 10 w) := by
  go_enter Tryd.func12, Tryd.ntmps12
  go_wp2
  go_ret
  exact ⟨rfl, rfl⟩
set_option maxRecDepth 20000 in
theorem tz_11 (v : Nat) (w : World) (hne : ¬ v = 0) (hc : w.cell? ⟨0, 28, none⟩ = some (.int .u8 11)) (hA : bits .and .u32 (v : Int) (-(v : Int) % 4294967296) = 2048) :
    Calls Tryd.prog 12 #[.int .u32 v] w (TzOut 11 w) := by
  go_enter Tryd.func12, Tryd.ntmps12
  go_wp2
  go_ret
  exact ⟨rfl, rfl⟩
set_option maxRecDepth 20000 in
theorem tz_12 (v : Nat) (w : World) (hne : ¬ v = 0) (hc : w.cell? ⟨0, 25, none⟩ = some (.int .u8 12)) (hA : bits .and .u32 (v : Int) (-(v : Int) % 4294967296) = 4096) :
    Calls Tryd.prog 12 #[.int .u32 v] w (TzOut 12 w) := by
  go_enter Tryd.func12, Tryd.ntmps12
  go_wp2
  go_ret
  exact ⟨rfl, rfl⟩
set_option maxRecDepth 20000 in
theorem tz_13 (v : Nat) (w : World) (hne : ¬ v = 0) (hc : w.cell? ⟨0, 18, none⟩ = some (.int .u8 13)) (hA : bits .and .u32 (v : Int) (-(v : Int) % 4294967296) = 8192) :
    Calls Tryd.prog 12 #[.int .u32 v] w (TzOut 13 w) := by
  go_enter Tryd.func12, Tryd.ntmps12
  go_wp2
  go_ret
  exact ⟨rfl, rfl⟩
set_option maxRecDepth 20000 in
theorem tz_14 (v : Nat) (w : World) (hne : ¬ v = 0) (hc : w.cell? ⟨0, 5, none⟩ = some (.int .u8 14)) (hA : bits .and .u32 (v : Int) (-(v : Int) % 4294967296) = 16384) :
    Calls Tryd.prog 12 #[.int .u32 v] w (TzOut 14 w) := by
  go_enter Tryd.func12, Tryd.ntmps12
  go_wp2
  go_ret
  exact ⟨rfl, rfl⟩
set_option maxRecDepth 20000 in
theorem tz_15 (v : Nat) (w : World) (hne : ¬ v = 0) (hc : w.cell? ⟨0, 11, none⟩ = some (.int .u8 15)) (hA : bits .and .u32 (v : Int) (-(v : Int) % 4294967296) = 32768) :
    Calls Tryd.prog 12 #[.int .u32 v] w (TzOut 15 w) := by
  go_enter Tryd.func12, Tryd.ntmps12
  go_wp2
  go_ret
  exact ⟨rfl, rfl⟩
set_option maxRecDepth 20000 in
theorem tz_16 (v : Nat) (w : World) (hne : ¬ v = 0) (hc : w.cell? ⟨0, 22, none⟩ = some (.int .u8 16)) (hA : bits .and .u32 (v : Int) (-(v : Int) % 4294967296) = 65536) :
    Calls Tryd.prog 12 #[.int .u32 v] w (TzOut 16 w) := by
  go_enter Tryd.func12, Tryd.ntmps12
  go_wp2
  go_ret
  exact ⟨rfl, rfl⟩
set_option maxRecDepth 20000 in
theorem tz_17 (v : Nat) (w : World) (hne : ¬ v = 0) (hc : w.cell? ⟨0, 13, none⟩ = some (.int .u8 17)) (hA : bits .and .u32 (v : Int) (-(v : Int) % 4294967296) = 131072) :
    Calls Tryd.prog 12 #[.int .u32 v] w (TzOut 17 w) := by
  go_enter Tryd.func12, Tryd.ntmps12
  go_wp2
  go_ret
  exact ⟨rfl, rfl⟩
set_option maxRecDepth 20000 in
theorem tz_18 (v : Nat) (w : World) (hne : ¬ v = 0) (hc : w.cell? ⟨0, 26, none⟩ = some (.int .u8 18)) (hA : bits .and .u32 (v : Int) (-(v : Int) % 4294967296) = 262144) :
    Calls Tryd.prog 12 #[.int .u32 v] w (TzOut 18 w) := by
  go_enter Tryd.func12, Tryd.ntmps12
  go_wp2
  go_ret
  exact ⟨rfl, rfl⟩
set_option maxRecDepth 20000 in
theorem tz_19 (v : Nat) (w : World) (hne : ¬ v = 0) (hc : w.cell? ⟨0, 21, none⟩ = some (.int .u8 19)) (hA : bits .and .u32 (v : Int) (-(v : Int) % 4294967296) = 524288) :
    Calls Tryd.prog 12 #[.int .u32 v] w (TzOut 19 w) := by
  go_enter Tryd.func12, Tryd.ntmps12
  go_wp2
  go_ret
  exact ⟨rfl, rfl⟩
set_option maxRecDepth 20000 in
theorem tz_20 (v : Nat) (w : World) (hne : ¬ v = 0) (hc : w.cell? ⟨0, 10, none⟩ = some (.int .u8 20)) (hA : bits .and .u32 (v : Int) (-(v : Int) % 4294967296) = 1048576) :
    Calls Tryd.prog 12 #[.int .u32 v] w (TzOut 20 w) := by
  go_enter Tryd.func12, Tryd.ntmps12
  go_wp2
  go_ret
  exact ⟨rfl, rfl⟩
set_option maxRecDepth 20000 in
theorem tz_21 (v : Nat) (w : World) (hne : ¬ v = 0) (hc : w.cell? ⟨0, 20, none⟩ = some (.int .u8 21)) (hA : bits .and .u32 (v : Int) (-(v : Int) % 4294967296) = 2097152) :
    Calls Tryd.prog 12 #[.int .u32 v] w (TzOut 21 w) := by
  go_enter Tryd.func12, Tryd.ntmps12
  go_wp2
  go_ret
  exact ⟨rfl, rfl⟩
set_option maxRecDepth 20000 in
theorem tz_22 (v : Nat) (w : World) (hne : ¬ v = 0) (hc : w.cell? ⟨0, 9, none⟩ = some (.int .u8 22)) (hA : bits .and .u32 (v : Int) (-(v : Int) % 4294967296) = 4194304) :
    Calls Tryd.prog 12 #[.int .u32 v] w (TzOut 22 w) := by
  go_enter Tryd.func12, Tryd.ntmps12
  go_wp2
  go_ret
  exact ⟨rfl, rfl⟩
set_option maxRecDepth 20000 in
theorem tz_23 (v : Nat) (w : World) (hne : ¬ v = 0) (hc : w.cell? ⟨0, 19, none⟩ = some (.int .u8 23)) (hA : bits .and .u32 (v : Int) (-(v : Int) % 4294967296) = 8388608) :
    Calls Tryd.prog 12 #[.int .u32 v] w (TzOut 23 w) := by
  go_enter Tryd.func12, Tryd.ntmps12
  go_wp2
  go_ret
  exact ⟨rfl, rfl⟩
set_option maxRecDepth 20000 in
theorem tz_24 (v : Nat) (w : World) (hne : ¬ v = 0) (hc : w.cell? ⟨0, 6, none⟩ = some (.int .u8 24)) (hA : bits .and .u32 (v : Int) (-(v : Int) % 4294967296) = 16777216) :
    Calls Tryd.prog 12 #[.int .u32 v] w (TzOut 24 w) := by
  go_enter Tryd.func12, Tryd.ntmps12
  go_wp2
  go_ret
  exact ⟨rfl, rfl⟩
set_option maxRecDepth 20000 in
theorem tz_25 (v : Nat) (w : World) (hne : ¬ v = 0) (hc : w.cell? ⟨0, 12, none⟩ = some (.int .u8 25)) (hA : bits .and .u32 (v : Int) (-(v : Int) % 4294967296) = 33554432) :
    Calls Tryd.prog 12 #[.int .u32 v] w (TzOut 25 w) := by
  go_enter Tryd.func12, Tryd.ntmps12
  go_wp2
  go_ret
  exact ⟨rfl, rfl⟩
set_option maxRecDepth 20000 in
theorem tz_26 (v : Nat) (w : World) (hne : ¬ v = 0) (hc : w.cell? ⟨0, 24, none⟩ = some (.int .u8 26)) (hA : bits .and .u32 (v : Int) (-(v : Int) % 4294967296) = 67108864) :
    Calls Tryd.prog 12 #[.int .u32 v] w (TzOut 26 w) := by
  go_enter Tryd.func12, Tryd.ntmps12
  go_wp2
  go_ret
  exact ⟨rfl, rfl⟩
set_option maxRecDepth 20000 in
theorem tz_27 (v : Nat) (w : World) (hne : ¬ v = 0) (hc : w.cell? ⟨0, 17, none⟩ = some (.int .u8 27)) (hA : bits .and .u32 (v : Int) (-(v : Int) % 4294967296) = 134217728) :
    Calls Tryd.prog 12 #[.int .u32 v] w (TzOut 27 w) := by
  go_enter Tryd.func12, Tryd.ntmps12
  go_wp2
  go_ret
  exact ⟨rfl, rfl⟩
set_option maxRecDepth 20000 in
theorem tz_28 (v : Nat) (w : World) (hne : ¬ v = 0) (hc : w.cell? ⟨0, 2, none⟩ = some (.int .u8 28)) (hA : bits .and .u32 (v : Int) (-(v : Int) % 4294967296) = 268435456) :
    Calls Tryd.prog 12 #[.int .u32 v] w (TzOut 28 w) := by
  go_enter Tryd.func12, Tryd.ntmps12
  go_wp2
  go_ret
  exact ⟨rfl, rfl⟩
set_option maxRecDepth 20000 in
theorem tz_29 (v : Nat) (w : World) (hne : ¬ v = 0) (hc : w.cell? ⟨0, 4, none⟩ = some (.int .u8 29)) (hA : bits .and .u32 (v : Int) (-(v : Int) % 4294967296) = 536870912) :
    Calls Tryd.prog 12 #[.int .u32 v] w (TzOut 29 w) := by
  go_enter Tryd.func12, Tryd.ntmps12
  go_wp2
  go_ret
  exact ⟨rfl, rfl⟩
set_option maxRecDepth 20000 in
theorem tz_30 (v : Nat) (w : World) (hne : ¬ v = 0) (hc : w.cell? ⟨0, 8, none⟩ = some (.int .u8 30)) (hA : bits .and .u32 (v : Int) (-(v : Int) % 4294967296) = 1073741824) :
    Calls Tryd.prog 12 #[.int .u32 v] w (TzOut 30 w) := by
  go_enter Tryd.func12, Tryd.ntmps12
  go_wp2
  go_ret
  exact ⟨rfl, rfl⟩
set_option maxRecDepth 20000 in
theorem tz_31 (v : Nat) (w : World) (hne : ¬ v = 0) (hc : w.cell? ⟨0, 16, none⟩ = some (.int .u8 31)) (hA : bits .and .u32 (v : Int) (-(v : Int) % 4294967296) = 2147483648) :
    Calls Tryd.prog 12 #[.int .u32 v] w (TzOut 31 w) := by
  go_enter Tryd.func12, Tryd.ntmps12
  go_wp2
  go_ret
  exact ⟨rfl, rfl⟩
theorem tz32 (v k : Nat) (w : World) (hT : Tab w) (hv : v < 4294967296) (hk : k < 32) (hb : v.testBit k = true) (hl : ∀ j, j < k → v.testBit j = false) :
    Calls Tryd.prog 12 #[.int .u32 v] w (TzOut k w) := by
  have hne : ¬ v = 0 := by rintro rfl; rw [Nat.zero_testBit] at hb; cases hb
  have hand := low_bits v (2 ^ k) hv (low_and v k hv hk hb hl) hne
  clear hb hl
  obtain ⟨q, hq⟩ : ∃ q : Int, q = ((2 ^ k : Nat) : Int) := ⟨_, rfl⟩
  rw [← hq] at hand
  by_cases h0 : k = 0
  · subst h0; exact tz_0 v w hne (hT 0 (by decide)) (hand.trans (hq.trans (by decide)))
  by_cases h1 : k = 1
  · subst h1; exact tz_1 v w hne (hT 1 (by decide)) (hand.trans (hq.trans (by decide)))
  by_cases h2 : k = 2
  · subst h2; exact tz_2 v w hne (hT 3 (by decide)) (hand.trans (hq.trans (by decide)))
  by_cases h3 : k = 3
  · subst h3; exact tz_3 v w hne (hT 7 (by decide)) (hand.trans (hq.trans (by decide)))
  by_cases h4 : k = 4
  · subst h4; exact tz_4 v w hne (hT 14 (by decide)) (hand.trans (hq.trans (by decide)))
  by_cases h5 : k = 5
  · subst h5; exact tz_5 v w hne (hT 29 (by decide)) (hand.trans (hq.trans (by decide)))
  by_cases h6 : k = 6
  · subst h6; exact tz_6 v w hne (hT 27 (by decide)) (hand.trans (hq.trans (by decide)))
  by_cases h7 : k = 7
  · subst h7; exact tz_7 v w hne (hT 23 (by decide)) (hand.trans (hq.trans (by decide)))
  by_cases h8 : k = 8
  · subst h8; exact tz_8 v w hne (hT 15 (by decide)) (hand.trans (hq.trans (by decide)))
  by_cases h9 : k = 9
  · subst h9; exact tz_9 v w hne (hT 31 (by decide)) (hand.trans (hq.trans (by decide)))
  by_cases h10 : k = 10
  · subst h10; exact tz_10 v w hne (hT 30 (by decide)) (hand.trans (hq.trans (by decide)))
  by_cases h11 : k = 11
  · subst h11; exact tz_11 v w hne (hT 28 (by decide)) (hand.trans (hq.trans (by decide)))
  by_cases h12 : k = 12
  · subst h12; exact tz_12 v w hne (hT 25 (by decide)) (hand.trans (hq.trans (by decide)))
  by_cases h13 : k = 13
  · subst h13; exact tz_13 v w hne (hT 18 (by decide)) (hand.trans (hq.trans (by decide)))
  by_cases h14 : k = 14
  · subst h14; exact tz_14 v w hne (hT 5 (by decide)) (hand.trans (hq.trans (by decide)))
  by_cases h15 : k = 15
  · subst h15; exact tz_15 v w hne (hT 11 (by decide)) (hand.trans (hq.trans (by decide)))
  by_cases h16 : k = 16
  · subst h16; exact tz_16 v w hne (hT 22 (by decide)) (hand.trans (hq.trans (by decide)))
  by_cases h17 : k = 17
  · subst h17; exact tz_17 v w hne (hT 13 (by decide)) (hand.trans (hq.trans (by decide)))
  by_cases h18 : k = 18
  · subst h18; exact tz_18 v w hne (hT 26 (by decide)) (hand.trans (hq.trans (by decide)))
  by_cases h19 : k = 19
  · subst h19; exact tz_19 v w hne (hT 21 (by decide)) (hand.trans (hq.trans (by decide)))
  by_cases h20 : k = 20
  · subst h20; exact tz_20 v w hne (hT 10 (by decide)) (hand.trans (hq.trans (by decide)))
  by_cases h21 : k = 21
  · subst h21; exact tz_21 v w hne (hT 20 (by decide)) (hand.trans (hq.trans (by decide)))
  by_cases h22 : k = 22
  · subst h22; exact tz_22 v w hne (hT 9 (by decide)) (hand.trans (hq.trans (by decide)))
  by_cases h23 : k = 23
  · subst h23; exact tz_23 v w hne (hT 19 (by decide)) (hand.trans (hq.trans (by decide)))
  by_cases h24 : k = 24
  · subst h24; exact tz_24 v w hne (hT 6 (by decide)) (hand.trans (hq.trans (by decide)))
  by_cases h25 : k = 25
  · subst h25; exact tz_25 v w hne (hT 12 (by decide)) (hand.trans (hq.trans (by decide)))
  by_cases h26 : k = 26
  · subst h26; exact tz_26 v w hne (hT 24 (by decide)) (hand.trans (hq.trans (by decide)))
  by_cases h27 : k = 27
  · subst h27; exact tz_27 v w hne (hT 17 (by decide)) (hand.trans (hq.trans (by decide)))
  by_cases h28 : k = 28
  · subst h28; exact tz_28 v w hne (hT 2 (by decide)) (hand.trans (hq.trans (by decide)))
  by_cases h29 : k = 29
  · subst h29; exact tz_29 v w hne (hT 4 (by decide)) (hand.trans (hq.trans (by decide)))
  by_cases h30 : k = 30
  · subst h30; exact tz_30 v w hne (hT 8 (by decide)) (hand.trans (hq.trans (by decide)))
  by_cases h31 : k = 31
  · subst h31; exact tz_31 v w hne (hT 16 (by decide)) (hand.trans (hq.trans (by decide)))
  omega
end Go.Proofs.YtmaghlckgfihcaaDoor
