/- FnAZBytes: the walk of the law: bits as bytes by the package and by the reference are one. -/
import Derived.Test.YtifegijnhlbedaaBytesW
import Derived.Laws.BytesArg
import Derived.Deep.RegionWith
namespace Go.Proofs.Ytifegijnhlbedaa
open Go.RowKit
set_option linter.unusedVariables false

/-- The string of bytes. -/
def strOf (l : List Nat) : ByteArray := strOfNums (l.map fun x : Nat => (x : Int))

theorem conv_bytes {P : Program} {w : World} {A : Option Addr} {n c : Nat} {l : List Nat} (src dst e : TypeId) (hs : P.underlying src = some (.slice e)) (he : P.underlying e = some (.int .u8)) (hd : P.underlying dst = some .string)
    (h : Rd w A n (l.map fun x => Value.int .u8 (x : Nat))) : (convert src dst (.slice A n c)).run P w = .ok (.string (strOf l)) w := by
  have hl : l.length = n := by simpa using h.1
  rcases Nat.eq_zero_or_pos n with h0 | h0
  · subst h0
    obtain rfl : l = [] := List.eq_nil_of_length_eq_zero hl
    rw [run_convert_bytes_string w src dst e A 0 c hs he hd]
    cases A <;> simp [Conv.bytesToString, loadCells, loadCellsFrom, strOf, strOfNums]
    all_goals rfl
  · obtain ⟨b, o, rfl, _, hc⟩ := h.2 h0
    exact run_convert_bytes_arg w src e hs he b o n c _ (by simpa using hl) (fun i hi => by
      rw [hc i (by simp; omega)]
      simp [List.getD, List.getElem?_eq_getElem (show i < l.length by omega)]) dst hd

set_option maxHeartbeats 1000000 in
theorem FnAZBytes_walk (w : World) (A : Option Addr) (n c : Nat) (l : List Bool) (hS : SlIn w A n c (l.map Value.bool)) :
    Calls Try.prog 4 #[.slice A n c] w fun e w' => e = .returned (.bool true) ∧ Below w.heap.size w w' := by
  have hR := hS.rd
  obtain ⟨_, hnc, hcm, _⟩ := hS
  unfold maxLen at hcm
  by_cases hbig : (2147483647 : Int) < n
  · go_enter Try.func4, Try.ntmps4
    go_wp2
    go_ret
    exact ⟨rfl, Below.refl _ _⟩
  · by_cases h400 : (n : Int) ≤ 400
    · have HR := hid hR
      clear hR
      go_enter Try.func4, Try.ntmps4
      go_wp2
      go_region_with (first
        | (go_at_call 11; refine (implAZBytes A n c (l) _ ?_ ?_).mono ?_; (first | exact HR.out | exact Rd.below (w := w.drew) HR.out hb2); omega; rintro e w1 ⟨A1, c1, rfl, h1, hb1⟩; have cv1 := conv_bytes (c := c1) (P := Try.prog) 29 9 5 Try.underlying29 Try.underlying5 Try.underlying9 h1; (try have cv2 := conv_bytes (c := c2) (P := Try.prog) 29 9 5 Try.underlying29 Try.underlying5 Try.underlying9 (h2.below hb1)))
        | (go_at_call 12; refine (specAZFull A n c (l) _ ?_ ?_).mono ?_; (first | exact HR.out | exact Rd.below (w := w.drew) HR.out hb1); omega; rintro e w2 ⟨A2, c2, rfl, h2, hb2⟩; have cv2 := conv_bytes (c := c2) (P := Try.prog) 29 9 5 Try.underlying29 Try.underlying5 Try.underlying9 h2; (try have cv1 := conv_bytes (c := c1) (P := Try.prog) 29 9 5 Try.underlying29 Try.underlying5 Try.underlying9 (h1.below hb2))))
      all_goals go_wp2
      all_goals go_ret
      all_goals refine ⟨rfl, ?_⟩
      all_goals first
        | exact (((Below.refl _ w).drew).trans hb1).trans (hb2.mono hb1.size)
        | exact (((Below.refl _ w).drew).trans hb2).trans (hb1.mono hb2.size)
    · have HR : Hid (Rd w A 400 ((l.take 400).map Value.bool)) := hid (by rw [List.map_take]; exact hR.take 400 (by omega))
      clear hR
      have hkc : 400 ≤ c := by omega
      go_enter Try.func4, Try.ntmps4
      go_wp2
      go_region_with (first
        | (go_at_call 11; refine (implAZBytes A 400 c (l.take 400) _ ?_ ?_).mono ?_; (first | exact HR.out | exact Rd.below (w := w.drew) HR.out hb2); omega; rintro e w1 ⟨A1, c1, rfl, h1, hb1⟩; have cv1 := conv_bytes (c := c1) (P := Try.prog) 29 9 5 Try.underlying29 Try.underlying5 Try.underlying9 h1; (try have cv2 := conv_bytes (c := c2) (P := Try.prog) 29 9 5 Try.underlying29 Try.underlying5 Try.underlying9 (h2.below hb1)))
        | (go_at_call 12; refine (specAZFull A 400 c (l.take 400) _ ?_ ?_).mono ?_; (first | exact HR.out | exact Rd.below (w := w.drew) HR.out hb1); omega; rintro e w2 ⟨A2, c2, rfl, h2, hb2⟩; have cv2 := conv_bytes (c := c2) (P := Try.prog) 29 9 5 Try.underlying29 Try.underlying5 Try.underlying9 h2; (try have cv1 := conv_bytes (c := c1) (P := Try.prog) 29 9 5 Try.underlying29 Try.underlying5 Try.underlying9 (h1.below hb2))))
      all_goals go_wp2
      all_goals go_ret
      all_goals refine ⟨rfl, ?_⟩
      all_goals first
        | exact (((Below.refl _ w).drew).trans hb1).trans (hb2.mono hb1.size)
        | exact (((Below.refl _ w).drew).trans hb2).trans (hb1.mono hb2.size)
end Go.Proofs.Ytifegijnhlbedaa
