/- encoder.SymbolInfo_Lookup, impl.DMSymbolFor: the walks. -/
import Derived.Test.YtfmjkflihnfneaaDmD
import Derived.Test.YtfmjkflihnfneaaDmE
namespace Go.Proofs.Ytfmjkflihnfneaa
open Go.RowKit
set_option linter.unusedVariables false
def ErrOut (w : World) (e : Ending) (w' : World) : Prop := ∃ t v, e = .returned (.iface t v) ∧ Below w.heap.size w w'
theorem newException (s : ByteArray) (a : Option Addr) (l c : Nat) (w : World) :
    Calls Try.prog 32 #[.string s, .slice a l c] w fun e w' => e = .returned (.agg #[.string s, .nilIface]) ∧ Below w.heap.size w w' := by
  go_enter Try.func32, Try.ntmps32
  go_wp2
  refine bodyPost_ret (v := .agg #[.string s, .nilIface]) (by simp [results, Try.results32, go_sem]) rfl ⟨rfl, (Below.refl _ _).alloc (Nat.le_refl _) _⟩
theorem newWriter (a : Option Addr) (l c : Nat) (w : World) : Calls Try.prog 26 #[.slice a l c] w (ErrOut w) := by
  go_enter Try.func26, Try.ntmps26
  go_wp2_with fail
  refine (newException _ _ _ _ _).mono ?_
  rintro e w1 ⟨rfl, hB⟩
  go_wp2_with fail
  go_ret
  exact ⟨_, _, rfl, hB⟩
def IsRow (w : World) (q k : Nat) : Prop := Arr w q 49 (infCells k)
def LookOut (words shape : Nat) (w : World) (e : Ending) (w' : World) : Prop :=
  Below w.heap.size w w' ∧ ((∃ k q, k < 30 ∧ rowFits words shape k = true ∧ (∀ j, j < k → rowFits words shape j = false) ∧ e = .returned (.tuple #[.pointer (some ⟨q, 0, none⟩), .nilIface]) ∧ IsRow w' q k) ∨
    ((∀ j, j < 30 → rowFits words shape j = false) ∧ ∃ t v, e = .returned (.tuple #[.pointer none, .iface t v])))
set_option maxRecDepth 20000 in
set_option maxHeartbeats 4000000 in
theorem lookup (words shape : Nat) (hw : words ≤ 9223372036854775807) (hs : shape ≤ 2) (w : World) :
    Calls Try.prog 10 #[.int .i64 words, .int .i64 shape, .pointer none, .pointer none, .bool true] w (LookOut words shape w) := by
  have sy := syms w
  obtain ⟨S, hS⟩ : ∃ S, S = shape := ⟨_, rfl⟩
  rw [show LookOut words shape w = LookOut words S w by rw [hS]]
  have HS := hid hS
  clear hS
  have hs3 : shape = 0 ∨ shape = 1 ∨ shape = 2 := by omega
  rcases hs3 with rfl | rfl | rfl
  all_goals
    go_enter Try.func10, Try.ntmps10
    go_wp2_with fail
    refine sy.mono ?_
    rintro e w1 ⟨g, rfl, hA, hRows, hb⟩
    have HA := hid hA
    have HR := hid hRows
    have HB := hid hb
    clear hA hRows hb sy
    obtain ⟨B, hB⟩ : ∃ B, B = w.heap.size := ⟨_, rfl⟩
    rw [← hB] at HA HR
    have HBE := hid hB
    clear hB
    go_wp2_with fail
    go_loop [16] (fun iv => ∃ k : Nat, k ≤ 30 ∧ iv = .int .i64 k ∧ Hid (∀ j, j < k → rowFits words S j = false)) (fun iv => 30 - (intOf iv).toNat)
    case atStart => exact ⟨0, by omega, rfl, hid fun j hj => absurd hj (by omega)⟩
    case round =>
      obtain ⟨k, hk, rfl, HN⟩ := hrel
      by_cases hlt : k < 30
      · have hlt' : (k : Int) < 30 := by omega
        have p0 : w1.cell? ⟨g, k, none⟩ = some (.pointer (some ⟨B + k, 0, none⟩)) := by
          rw [HA.out.cell? k, ptrs, List.getElem?_map, List.getElem?_range hlt]; rfl
        have hRow := HR.out k hlt
        have r0 : w1.cell? ⟨B + k, 0, none⟩ = some (.bool (inn k 0 == 1)) := hRow.cell? 0
        have r1 : w1.cell? ⟨B + k, 1, none⟩ = some (.int .i64 (inn k 1 : Nat)) := hRow.cell? 1
        have HROW := hid hRow
        have hfit := hid (show rowFits words S k = (!(S == 1 && inn k 0 == 1) && !(S == 2 && !(inn k 0 == 1)) && decide (words ≤ inn k 1)) from rfl)
        clear hRow
        generalize (inn k 0 == 1) = r at *
        generalize inn k 1 = dc at *
        have hstep : Hid (∀ (b : Bool), rowFits words S k = b → b = false → ∀ j, j < k + 1 → rowFits words S j = false) := hid fun b h1 h2 j hj => by
          rcases Nat.lt_or_ge j k with h | h
          · exact HN.out j h
          · obtain rfl : j = k := by omega
            rw [h1, h2]
        cases r
        all_goals
          by_cases hwd : words ≤ dc
          all_goals
            try (have hwd1 : (words : Int) ≤ (dc : Int) := by omega)
            try (have hwd2 : ¬ (words : Int) ≤ (dc : Int) := by omega)
            go_wp2_with fail
            first
              | (go_ret2; exact ⟨HB.out, .inl ⟨k, B + k, hlt, by rw [hfit.out, HS.out]; simp [hwd], HN.out, rfl, HROW.out⟩⟩)
              | (go_round
                 case rel => exact ⟨k + 1, by omega, by go_num, hid (hstep.out _ hfit.out (by rw [HS.out]; simp [hwd]))⟩
                 case measure => simp [intOf]; omega)
      · obtain rfl : k = 30 := by omega
        go_wp2_with fail
        refine (newWriter _ _ _ _).mono ?_
        rintro e w2 ⟨t, v, rfl, hb2⟩
        go_wp2_with fail
        go_ret2
        exact ⟨(HB.out.alloc HB.out.size _).trans (hb2.mono (by have := HB.out.size; simp; omega)), .inr ⟨HN.out, t, v, rfl⟩⟩
end Go.Proofs.Ytfmjkflihnfneaa
