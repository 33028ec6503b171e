/- FnRSScales: powers below 0 are refused; the package's three doors. -/
import Derived.Test.YtpkmknbmjlnkgaaScalD
namespace Go.Proofs.Ytpkmknbmjlnkgaa
open Go.RowKit
set_option linter.unusedVariables false

/-- An error is handed back. -/
def ErrOut (w : World) (e : Ending) (w' : World) : Prop := ∃ a, e = .returned (.iface 102 (.pointer (some a))) ∧ Below w.heap.size w w'

theorem errNew (s : ByteArray) (w : World) : Calls Try.prog 52 #[.string s] w (ErrOut w) := by
  go_enter Try.func52, Try.ntmps52
  go_wp2
  go_ret
  exact ⟨_, rfl, (Below.refl _ _).alloc (Nat.le_refl _) _⟩

/-- Nothing and an error are handed back. -/
def ErrOut2 (w : World) (e : Ending) (w' : World) : Prop := ∃ a, e = .returned (.tuple #[.pointer none, .iface 102 (.pointer (some a))]) ∧ Below w.heap.size w w'

theorem buildMonoNeg (q : Option Addr) (d c : Int) (w : World) (hd : d < 0) :
    Calls Try.prog 40 #[.pointer q, .int .i64 d, .int .i64 c] w (ErrOut2 w) := by
  go_enter Try.func40, Try.ntmps40
  go_wp2_with (go_at_call 52; ((with_reducible refine (errNew _ _).mono ?_); rintro e w' ⟨a, rfl, hb⟩))
  go_ret2
  exact ⟨_, rfl, hb⟩
theorem mulMonoNeg (q : Option Addr) (d c : Int) (w : World) (hd : d < 0) :
    Calls Try.prog 39 #[.pointer q, .int .i64 d, .int .i64 c] w (ErrOut2 w) := by
  go_enter Try.func39, Try.ntmps39
  go_wp2_with (go_at_call 52; ((with_reducible refine (errNew _ _).mono ?_); rintro e w' ⟨a, rfl, hb⟩))
  go_ret2
  exact ⟨_, rfl, hb⟩
theorem implListErr (a : Addr) (w : World) :
    Calls Try.prog 37 #[.pointer none, .iface 102 (.pointer (some a))] w fun e w' => e = .returned (.tuple #[.slice none 0 0, .bool false]) ∧ Below w.heap.size w w' := by
  go_enter Try.func37, Try.ntmps37
  go_wp2
  go_ret2
  exact ⟨rfl, Below.refl _ _⟩
end Go.Proofs.Ytpkmknbmjlnkgaa
