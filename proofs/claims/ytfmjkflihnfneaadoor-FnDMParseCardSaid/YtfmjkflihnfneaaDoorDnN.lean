/- laws.dmScript. -/
import Derived.Test.YtfmjkflihnfneaaDoorDnJ
namespace Go.Proofs.YtfmjkflihnfneaaDoor
open Go.RowKit
set_option linter.unusedVariables false
set_option linter.unusedSimpArgs false

def okSeg (x : Int × List Nat) : Bool := inModeZ x.1 x.2 && decide (x.2.length ≤ 1555)
/-- Words of segments that are as they must be, or none. -/
def ScriptOut (l : List (Int × List Nat)) (w : World) (e : Ending) (w' : World) : Prop :=
  (e = .returned (.tuple #[.slice none 0 0, .bool false]) ∨ l.length ≤ 40 ∧ (∀ x ∈ l, inModeZ x.1 x.2 = true ∧ x.2.length ≤ 1555) ∧ ∃ v, e = .returned (.tuple #[v, .bool true]) ∧ Own w' w.heap.size 5 v (u8s (scriptTo (natS l) l.length))) ∧ Below w.heap.size w w'
set_option maxRecDepth 20000 in
set_option maxHeartbeats 4000000 in
theorem dmScriptM (l : List (Int × List Nat)) (hl : ∀ x ∈ l, x.2.length ≤ 2147483647 ∧ ∀ c ∈ x.2, c < 256) (hz : ∀ x ∈ l, -9223372036854775808 ≤ x.1 ∧ x.1 ≤ 9223372036854775807) (hln : l.length ≤ 2147483647) (A : Option Addr) (c : Nat) (w : World) (hS : Segs w A l.length l) :
    Calls Tryd.prog 8 #[.slice A l.length c] w (ScriptOut l w) := by
  obtain ⟨N, hN⟩ : ∃ N, N = l.length := ⟨_, rfl⟩
  by_cases h40 : l.length ≤ 40
  case neg =>
    rw [← hN] at h40 ⊢ hln
    have h40' : (40 : Int) < (N : Int) := by omega
    go_enter Tryd.func8, Tryd.ntmps8
    go_wp2_with fail
    go_ret2
    exact ⟨.inl rfl, Below.refl _ _⟩
  case pos =>
  have HSC := hid (fun (h : ∀ x ∈ l, inModeZ x.1 x.2 = true ∧ x.2.length ≤ 1600) W (hS : Segs W A l.length l) => scriptM l h40 h A c W hS)
  have HS := hid hS
  rw [← hN] at h40 ⊢ HSC HS
  have h40' : ¬ (40 : Int) < (N : Int) := by omega
  have HN := hid hN
  have HL := hid hl
  have HZ := hid hz
  clear hN hS hl hz hln
  go_enter Tryd.func8, Tryd.ntmps8
  go_wp2_with fail
  go_loopw [11] (fun iv wr => ∃ (k : Nat), k ≤ N ∧ iv = .int .i64 (k : Nat) ∧ Hid (∀ j, j < k → inModeZ (l.getD j (0, [])).1 (l.getD j (0, [])).2 = true ∧ (l.getD j (0, [])).2.length ≤ 1555) ∧ Hid (Below w.heap.size w wr)) (fun iv _ => N - (intOf iv).toNat)
  case atStart => exact ⟨0, by omega, rfl, hid (fun j hj => absurd hj (by omega)), hid (Below.refl _ _)⟩
  case round =>
    obtain ⟨k, hk1, rfl, HJ, HB⟩ := hrel
    have hbs := HB.out.size
    by_cases hlt : k < N
    case neg =>
      obtain rfl : k = N := by omega
      have hlt' : ¬ (k : Int) < (k : Int) := by omega
      have HAL := hid (fun x (hx : x ∈ l) => show inModeZ x.1 x.2 = true ∧ x.2.length ≤ 1555 from by
        obtain ⟨j, hj, rfl⟩ := List.getElem_of_mem hx
        have := HJ.out j (by rw [HN.out]; exact hj)
        rwa [List.getD, List.getElem?_eq_getElem hj] at this)
      have HC := hid (HSC.out (fun x hx => ⟨(HAL.out x hx).1, by have := (HAL.out x hx).2; omega⟩) wr (HS.out.below HB.out))
      clear HSC
      go_wp2_with (go_at_call 15; ((with_reducible refine HC.out.mono ?_); rintro e w' ⟨v9, rfl, HO9, HB9⟩))
      go_ret2
      exact ⟨.inr ⟨by rw [← HN.out]; exact h40, HAL.out, _, rfl, by rw [← HN.out]; exact HO9.mono hbs⟩, HB.out.trans (HB9.mono hbs)⟩
    case pos =>
      have hlt' : (k : Int) < (N : Int) := by omega
      have hkl : k < l.length := by rw [← HN.out]; exact hlt
      obtain ⟨b, o, hA, hb, hc⟩ := (HS.out.2 (by omega))
      subst hA
      obtain ⟨c0, c1⟩ := hc k hlt
      have c0 := (HB.out.cell (p := ⟨b, o + k * 2, none⟩) hb).trans c0
      have c1 := (HB.out.cell (p := ⟨b, o + k * 2 + 1, none⟩) hb).trans c1
      have hx : l.getD k (0, []) ∈ l := by rw [List.getD, List.getElem?_eq_getElem hkl]; exact List.getElem_mem _
      obtain ⟨hl1, hl2⟩ := HL.out _ hx
      obtain ⟨hz1, hz2⟩ := HZ.out _ hx
      have HIM := hid (fun W => inModeM (l.getD k (0, [])).1 (l.getD k (0, [])).2 hl2 (by omega) W)
      have HJK := hid (fun h1 h2 j (hj : j < k + 1) => show inModeZ (l.getD j (0, [])).1 (l.getD j (0, [])).2 = true ∧ (l.getD j (0, [])).2.length ≤ 1555 from by
        by_cases h : j < k
        · exact HJ.out j h
        · obtain rfl : j = k := by omega
          exact ⟨h1, h2⟩)
      have hs1 := strOf_size (l.getD k (0, [])).2
      generalize (l.getD k (0, [])).1 = m at *
      generalize (l.getD k (0, [])).2 = t at *
      have HB2 := hid (HB.out.alloc hbs (.cells #[.int .i64 m, .string (strOf t)] 24))
      obtain ⟨T, hT⟩ : ∃ T, T = t.length := ⟨_, rfl⟩
      rw [← hT] at hs1 hl1 HJK
      generalize strOf t = st at *
      clear hc hx hl2 hT
      by_cases him : inModeZ m t = true
      case neg =>
        rw [Bool.not_eq_true] at him
        rw [him] at HIM
        clear HJK
        go_wp2_with (go_at_call 14; ((with_reducible refine (HIM.out _).mono ?_); rintro e w' ⟨rfl, rfl⟩))
        go_ret2
        exact ⟨.inl rfl, HB2.out⟩
      case pos =>
        have HJK := hid (HJK.out him)
        rw [him] at HIM
        by_cases h15 : T ≤ 1555
        case neg =>
          have h15' : (1555 : Int) < (T : Int) := by omega
          clear HJK
          go_wp2_with (go_at_call 14; ((with_reducible refine (HIM.out _).mono ?_); rintro e w' ⟨rfl, rfl⟩))
          go_ret2
          exact ⟨.inl rfl, HB2.out⟩
        case pos =>
          have h15' : ¬ (1555 : Int) < (T : Int) := by omega
          have HJK := hid (HJK.out h15)
          go_wp2_with (go_at_call 14; ((with_reducible refine (HIM.out _).mono ?_); rintro e w' ⟨rfl, rfl⟩))
          go_roundw
          case rel => exact ⟨k + 1, by omega, by go_num, HJK, HB2⟩
          case measure => simp [intOf]; omega
end Go.Proofs.YtfmjkflihnfneaaDoor
