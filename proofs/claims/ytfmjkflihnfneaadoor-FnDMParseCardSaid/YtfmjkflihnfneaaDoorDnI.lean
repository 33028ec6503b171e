/- Segments in memory; spec.DMSaid. -/
import Derived.Test.YtfmjkflihnfneaaDoorDnH
namespace Go.Proofs.YtfmjkflihnfneaaDoor
open Go.RowKit
set_option linter.unusedVariables false
set_option linter.unusedSimpArgs false

/-- A slice of segments, each a mode and a text. -/
def Segs (w : World) (A : Option Addr) (n : Nat) (l : List (Int × List Nat)) : Prop :=
  l.length = n ∧ (0 < n → ∃ b o, A = some ⟨b, o, none⟩ ∧ b < w.heap.size ∧ ∀ k, k < n →
    w.cell? ⟨b, o + k * 2, none⟩ = some (.int .i64 (l.getD k (0, [])).1) ∧ w.cell? ⟨b, o + k * 2 + 1, none⟩ = some (.string (strOf (l.getD k (0, [])).2)))
theorem Segs.below {w w' : World} {A : Option Addr} {n : Nat} {l : List (Int × List Nat)} (h : Segs w A n l) (hb : Below w.heap.size w w') : Segs w' A n l :=
  ⟨h.1, fun hn => by
    obtain ⟨b, o, hA, hl, hc⟩ := h.2 hn
    exact ⟨b, o, hA, Nat.lt_of_lt_of_le hl hb.size, fun k hk => ⟨(hb.cell (p := ⟨b, _, none⟩) hl).trans (hc k hk).1, (hb.cell (p := ⟨b, _, none⟩) hl).trans (hc k hk).2⟩⟩⟩
def natS (l : List (Int × List Nat)) : List (Nat × List Nat) := l.map fun x => (x.1.toNat, x.2)
theorem said_succ (l : List (Int × List Nat)) (k : Nat) (h : k < l.length) : saidTo (natS l) (k + 1) = saidTo (natS l) k ++ (l.getD k (0, [])).2 := by
  have hk : k < (natS l).length := by simpa [natS] using h
  unfold saidTo
  rw [List.take_succ_eq_append_getElem hk, List.map_append, List.flatten_append, List.getD, List.getElem?_eq_getElem h]
  simp [natS]
/-- How long the texts of the first k segments are. -/
theorem said_len (l : List (Int × List Nat)) (hl : ∀ x ∈ l, x.2.length ≤ 1600) : ∀ k, k ≤ l.length → (saidTo (natS l) k).length ≤ 1600 * k
  | 0, _ => by simp [saidTo]
  | k + 1, h => by
    have := said_len l hl k (by omega)
    have h2 := hl (l.getD k (0, [])) (by rw [List.getD, List.getElem?_eq_getElem (by omega)]; exact List.getElem_mem _)
    rw [said_succ l k (by omega), List.length_append]
    omega

set_option maxRecDepth 20000 in
set_option maxHeartbeats 4000000 in
theorem saidM (l : List (Int × List Nat)) (hn : l.length ≤ 40) (hl : ∀ x ∈ l, x.2.length ≤ 1600) (A : Option Addr) (c : Nat) (w : World) (hS : Segs w A l.length l) :
    Calls Tryd.prog 12 #[.slice A l.length c] w (fun e w' => e = .returned (.string (strOf (saidTo (natS l) l.length))) ∧ Below w.heap.size w w') := by
  obtain ⟨N, hN⟩ : ∃ N, N = l.length := ⟨_, rfl⟩
  rw [← hN] at hn hS ⊢
  have HN := hid hN
  have HS := hid hS
  have HSU := hid (fun k (hk : k < N) => said_succ l k (by omega))
  have HSL := hid (fun k (hk : k ≤ N) => said_len l hl k (by omega))
  clear hN hS
  go_enter Tryd.func12, Tryd.ntmps12
  go_wp2_with fail
  go_loopw [3, 8] (fun ov iv wr => ∃ (k : Nat), k ≤ N ∧ ov = .string (strOf (saidTo (natS l) k)) ∧ iv = .int .i64 (k : Nat) ∧ Hid (Below w.heap.size w wr)) (fun _ iv _ => N - (intOf iv).toNat)
  case atStart => exact ⟨0, by omega, rfl, rfl, hid (Below.refl _ _)⟩
  case round =>
    obtain ⟨k, hk1, rfl, rfl, HB⟩ := hrel
    by_cases hlt : k < N
    case neg =>
      obtain rfl : k = N := by omega
      have hlt' : ¬ (k : Int) < (k : Int) := by omega
      generalize hse : strOf (saidTo (natS l) k) = st at *
      go_wp2_with fail
      go_ret
      exact ⟨rfl, HB.out⟩
    case pos =>
      have hlt' : (k : Int) < (N : Int) := by omega
      obtain ⟨b, o, hA, hb, hc⟩ := (HS.out.2 (by omega))
      subst hA
      obtain ⟨c0, c1⟩ := hc k hlt
      have c0 := (HB.out.cell (p := ⟨b, o + k * 2, none⟩) hb).trans c0
      have c1 := (HB.out.cell (p := ⟨b, o + k * 2 + 1, none⟩) hb).trans c1
      have hse := HSU.out k hlt
      have h3 := HSL.out (k + 1) hlt
      generalize (l.getD k (0, [])).1 = m at *
      generalize (l.getD k (0, [])).2 = t at *
      have hst : strOf (saidTo (natS l) k) ++ strOf t = strOf (saidTo (natS l) (k + 1)) := by rw [strOf_app, hse]
      have hs1 := strOf_size (saidTo (natS l) (k + 1))
      have hsz : (strOf (saidTo (natS l) k)).size + (strOf t).size ≤ 64000 := by
        rw [strOf_size, strOf_size]
        rw [hse, List.length_append] at h3
        omega
      generalize saidTo (natS l) k = T at *
      obtain ⟨T2, hT2⟩ : ∃ T2, T2 = saidTo (natS l) (k + 1) := ⟨_, rfl⟩
      rw [← hT2] at hst hs1 h3
      have HT2 := hid hT2
      clear hT2
      clear hse hc
      have HB2 := hid (HB.out.alloc HB.out.size (.cells #[.int .i64 m, .string (strOf t)] 24))
      generalize strOf T = st at *
      generalize strOf t = su at *
      have HST := hid hst
      clear hst
      have hsz' : st.size + su.size ≤ 64000 := hsz
      have hsz2 : ¬ 9223372036854775807 < st.size + su.size := by omega
      go_wp2_with fail
      go_roundw
      case rel => exact ⟨k + 1, by omega, by rw [HST.out, HT2.out], by go_num, HB2⟩
      case measure => simp [intOf]; omega
end Go.Proofs.YtfmjkflihnfneaaDoor
