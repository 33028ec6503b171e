/- The walk of RSField: the six fields. -/
import Derived.Test.YtpkmknbmjlnkgaaMulW
namespace Go.Proofs.Ytpkmknbmjlnkgaa
open Go.RowKit
set_option linter.unusedVariables false

/-- The six fields. -/
def fP : Nat → Nat
  | 0 => 0x13 | 1 => 0x43 | 2 => 0x12D | 3 => 0x11D | 4 => 0x409 | _ => 0x1069
def fM : Nat → Nat
  | 0 => 4 | 1 => 6 | 2 => 8 | 3 => 8 | 4 => 10 | _ => 12
def fB : Nat → Nat
  | 3 => 0 | _ => 1
theorem fGF : ∀ k, IsGF (fP k) (fM k)
  | 0 => gf16 | 1 => gf64 | 2 => gf256a | 3 => gf256q | 4 => gf1024 | _ + 5 => gf4096
theorem fB_le : ∀ k, fB k ≤ 1
  | 0 => by decide | 1 => by decide | 2 => by decide | 3 => by decide | _ + 4 => by simp [fB]

def fieldVal (p N base : Nat) : Value := .agg #[.int .i64 p, .int .i64 N, .int .i64 base]

/-- A value is handed back; nothing that was there has turned. -/
def ValOut (v : Value) (w : World) (e : Ending) (w' : World) : Prop := e = .returned v ∧ Below w.heap.size w w'

set_option maxHeartbeats 1000000 in
theorem rsField (n : Nat) (hn : n ≤ 255) (w : World) : Calls Try.prog 10 #[.int .u8 n] w (ValOut (fieldVal (fP (n % 6)) (2 ^ fM (n % 6)) (fB (n % 6))) w) := by
  rcases (by omega : n % 6 = 0 ∨ n % 6 = 1 ∨ n % 6 = 2 ∨ n % 6 = 3 ∨ n % 6 = 4 ∨ n % 6 = 5) with h | h | h | h | h | h
  · rw [h]
    have hk : (n : Int) % 6 = 0 := by omega
    clear h
    go_enter Try.func10, Try.ntmps10
    go_wp2
    refine bodyPost_ret (v := .agg #[.int .i64 19, .int .i64 16, .int .i64 1]) (by simp [results, Try.results10, go_sem]) rfl ⟨rfl, ?_⟩
    exact (((Below.refl _ _).alloc (Nat.le_refl _) _).alloc (by simp) _)
  · rw [h]
    have hk : (n : Int) % 6 = 1 := by omega
    clear h
    go_enter Try.func10, Try.ntmps10
    go_wp2
    refine bodyPost_ret (v := .agg #[.int .i64 67, .int .i64 64, .int .i64 1]) (by simp [results, Try.results10, go_sem]) rfl ⟨rfl, ?_⟩
    exact (((Below.refl _ _).alloc (Nat.le_refl _) _).alloc (by simp) _)
  · rw [h]
    have hk : (n : Int) % 6 = 2 := by omega
    clear h
    go_enter Try.func10, Try.ntmps10
    go_wp2
    refine bodyPost_ret (v := .agg #[.int .i64 301, .int .i64 256, .int .i64 1]) (by simp [results, Try.results10, go_sem]) rfl ⟨rfl, ?_⟩
    exact (((Below.refl _ _).alloc (Nat.le_refl _) _).alloc (by simp) _)
  · rw [h]
    have hk : (n : Int) % 6 = 3 := by omega
    clear h
    go_enter Try.func10, Try.ntmps10
    go_wp2
    refine bodyPost_ret (v := .agg #[.int .i64 285, .int .i64 256, .int .i64 0]) (by simp [results, Try.results10, go_sem]) rfl ⟨rfl, ?_⟩
    exact (((Below.refl _ _).alloc (Nat.le_refl _) _).alloc (by simp) _)
  · rw [h]
    have hk : (n : Int) % 6 = 4 := by omega
    clear h
    go_enter Try.func10, Try.ntmps10
    go_wp2
    refine bodyPost_ret (v := .agg #[.int .i64 1033, .int .i64 1024, .int .i64 1]) (by simp [results, Try.results10, go_sem]) rfl ⟨rfl, ?_⟩
    exact (((Below.refl _ _).alloc (Nat.le_refl _) _).alloc (by simp) _)
  · rw [h]
    have hk : (n : Int) % 6 = 5 := by omega
    clear h
    go_enter Try.func10, Try.ntmps10
    go_wp2
    refine bodyPost_ret (v := .agg #[.int .i64 4201, .int .i64 4096, .int .i64 1]) (by simp [results, Try.results10, go_sem]) rfl ⟨rfl, ?_⟩
    exact (((Below.refl _ _).alloc (Nat.le_refl _) _).alloc (by simp) _)

end Go.Proofs.Ytpkmknbmjlnkgaa
