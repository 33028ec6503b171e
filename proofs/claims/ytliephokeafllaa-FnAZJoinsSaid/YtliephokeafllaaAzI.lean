/- spec.AZWordBits, spec.AZLay. -/
import Derived.Test.YtliephokeafllaaAzH
namespace Go.Proofs.Ytliephokeafllaa
open Go.RowKit
set_option linter.unusedVariables false
set_option linter.unusedSimpArgs false

theorem azBitsN_le (c : Bool) {L : Nat} (hL : L ≤ 32) : azBitsN c L ≤ 20000 := by
  have h1 : (88 + 16 * L) * L ≤ (88 + 16 * 32) * 32 := Nat.mul_le_mul (by omega) hL
  have h2 : (112 + 16 * L) * L ≤ (112 + 16 * 32) * 32 := Nat.mul_le_mul (by omega) hL
  unfold azBitsN
  cases c <;> simp <;> omega
theorem Own.made {w : World} {B : Nat} (n : Nat) (hb : B ≤ w.heap.size) (hn : n ≤ 1000) : Own (w.alloc (.cells (madeCells #[.bool false] n) 4)) B 4 (.slice (some ⟨w.heap.size, 0, none⟩) n n) ((List.replicate n false).map Value.bool) := by
  have h := Own.lit (w := w) (B := B) (e := 4) (madeCells #[.bool false] n) hb (by simp [madeCells, maxLen]; omega)
  have e : (madeCells #[Value.bool false] n).toList = (List.replicate n false).map Value.bool := by
    apply List.ext_getElem
    · simp [madeCells]
    · intro i h1 h2
      simp [madeCells, Nat.mod_one]
  rw [e] at h
  simpa [madeCells] using h

/-- Bits of words, in new memory. -/
def WordsOut (b : List Bool) (w : World) (e : Ending) (w' : World) : Prop :=
  ∃ v, e = .returned v ∧ Own w' w.heap.size 4 v (b.map Value.bool) ∧ Below w.heap.size w w'

set_option maxRecDepth 20000 in
set_option maxHeartbeats 4000000 in
theorem wordBitsM (c : Bool) (L : Nat) (hL0 : 1 ≤ L) (hL : L ≤ 32) (ws : List Nat) (A : Option Addr) (cp : Nat) (w : World) (hR : Rd w A ws.length (ints ws)) (hlt : ∀ x ∈ ws, x < 4096) (hlen : ws.length ≤ 4000) :
    Calls Try.prog 10 #[.slice A ws.length cp, .bool c, .int .i64 (L : Nat)] w (WordsOut (layBits (azBitsN c L % azW L) (azW L) ws) w) := by
  obtain ⟨i4, hi4, hb0, hb1, hb2⟩ := info_of info4
  obtain ⟨N, hN⟩ : ∃ N, N = ws.length := ⟨_, rfl⟩
  have HN := hid hN
  rw [← hN] at hR hlen ⊢
  have hWD := hid (azWidthM L w)
  have hBT := hid (azBitsM c L hL w)
  have hbl := azBitsN_le c hL
  have hw := azW_cases L
  obtain ⟨WD, hWDe⟩ : ∃ WD, WD = azW L := ⟨_, rfl⟩
  rw [← hWDe] at hWD hw ⊢
  have hw12 : WD ≤ 12 := by omega
  have hw6 : 6 ≤ WD := by omega
  obtain ⟨BT, hBTe⟩ : ∃ BT, BT = azBitsN c L := ⟨_, rfl⟩
  rw [← hBTe] at hBT hbl ⊢
  obtain ⟨r, hr⟩ : ∃ r, r = BT % WD := ⟨_, rfl⟩
  have hrl : r < 12 := by have := Nat.mod_lt BT (show 0 < WD by omega); omega
  have er : (BT : Int) % (WD : Int) = (r : Nat) := by omega
  rw [← hr]
  have hmk := fun W => run_make (P := Try.prog) W 28 4 i4 (.bool false) Try.underlying28 hi4 hb0 .i64 .i64 (r : Int) (r : Int) (by omega) (by omega) (by rw [hb2]; omega) (by omega)
  simp only [hb1] at hmk
  have hz : ¬ (WD : Int) = 0 := by omega
  have HR := hid hR
  have HLT := hid hlt
  have HA0 := hid (show IsAz ((w.alloc (.cells (madeCells #[.bool false] r) 4)).alloc (.cells #[.slice (some ⟨w.heap.size, 0, none⟩) r r, .string ⟨#[]⟩, .int .i64 0] 56)) (w.alloc (.cells (madeCells #[.bool false] r) 4)).heap.size w.heap.size (.slice (some ⟨w.heap.size, 0, none⟩) r r) ⟨layBits r WD [], [], 0⟩ from
    ⟨Arr.of_new _ 56 #[.slice (some ⟨w.heap.size, 0, none⟩) r r, .string ⟨#[]⟩, .int .i64 0], by
      have := (Own.made (w := w) (B := w.heap.size) r (Nat.le_refl _) (by omega)).alloc (.cells #[.slice (some ⟨w.heap.size, 0, none⟩) r r, .string ⟨#[]⟩, .int .i64 0] 56)
      simpa [layBits] using this, by simp [Value.ownBlock], by simp⟩)
  have HB0 := hid (show Below w.heap.size w ((w.alloc (.cells (madeCells #[.bool false] r) 4)).alloc (.cells #[.slice (some ⟨w.heap.size, 0, none⟩) r r, .string ⟨#[]⟩, .int .i64 0] 56)) from ((Below.refl _ _).alloc (Nat.le_refl _) _).alloc (by simp) _)
  clear hN hR hlt hWDe hBTe hr hw
  have hq9 : (w.alloc (.cells (madeCells #[.bool false] r) 4)).heap.size = w.heap.size + 1 := by simp
  rw [hq9] at HA0
  clear hq9
  go_enter Try.func10, Try.ntmps10
  go_wp2_with (first | (go_at_call 15; ((with_reducible refine hWD.out.mono ?_); rintro e w' ⟨rfl, rfl⟩)) | (go_at_call 21; ((with_reducible refine hBT.out.mono ?_); rintro e w' ⟨rfl, rfl⟩)))
  generalize (w.alloc (.cells (madeCells #[.bool false] r) 4)).alloc (.cells #[.slice (some ⟨w.heap.size, 0, none⟩) r r, .string ⟨#[]⟩, .int .i64 0] 56) = w1 at *
  clear hmk er hz
  go_loopw [9] (fun iv wr => ∃ (i : Nat) (v : Value), i ≤ N ∧ iv = .int .i64 (i : Nat) ∧ Hid (IsAz wr (w.heap.size + 1) w.heap.size v ⟨layBits r WD (ws.take i), [], 0⟩) ∧ Hid (Below w.heap.size w wr)) (fun iv _ => N - (intOf iv).toNat)
  case atStart => exact ⟨0, _, by omega, rfl, HA0, HB0⟩
  case round =>
    clear HA0 HB0
    obtain ⟨i, v, hi, rfl, HA, HB⟩ := hrel
    by_cases h1 : i < N
    · have h1' : (i : Int) < (N : Int) := by omega
      have hi' : i < ws.length := by rw [← HN.out]; exact h1
      obtain ⟨gb, go, rfl, hgb, hcell⟩ := HR.out.2 (by omega)
      have ci := (World.cell?_of_block (w := w) (HB.out.block gb hgb)).trans (hcell i (by rw [ints_len]; exact hi'))
      rw [ints_get ws i hi'] at ci
      have HNX := hid (layBits_next r WD ws i hi')
      have hxl := HLT.out _ (List.getElem_mem hi')
      rw [List.getD, List.getElem?_eq_getElem hi', Option.getD_some] at HNX
      generalize ws[i] = x at *
      have hbl2 : (layBits r WD (ws.take i)).length ≤ 100000 := by
        rw [layBits_len, List.length_take]
        have : WD * min i ws.length ≤ 12 * 4000 := Nat.mul_le_mul hw12 (by omega)
        omega
      have HP := hid (putM wr (w.heap.size + 1) w.heap.size v ⟨layBits r WD (ws.take i), [], 0⟩ x WD (by omega) hxl HA.out (by show (layBits r WD (ws.take i)).length ≤ _; omega))
      clear hcell hi' HA
      go_wp2_with fail
      refine HP.out.mono ?_
      rintro e w2 ⟨rfl, v2, hA2, hB2, hF2⟩
      have HA2 := hid hA2
      have HB2 := hid (HB.out.trans hB2)
      clear hA2 hB2 hF2 HB HP
      go_wp2_with fail
      go_roundw
      case rel => exact ⟨i + 1, v2, by omega, by go_num, hid (by rw [HNX.out]; exact HA2.out), HB2⟩
      case measure => simp [intOf]; omega
    · obtain rfl : i = N := by omega
      have h1' : ¬ (i : Int) < (i : Int) := by omega
      obtain ⟨Ab, cb, hv, _, _⟩ := HA.out.form
      have c0 := HA.out.cells.cell 0 (by simp)
      simp only [List.getElem_cons_zero, List.getElem_cons_succ] at c0
      subst hv
      go_wp2_with fail
      go_ret
      have hO := HA.out.own
      simp only [HN.out, List.take_length] at hO
      simp only [HN.out, List.take_length]
      exact ⟨_, rfl, hO, HB.out⟩
theorem brow_put (X : Nat → Nat → Bool) (W y x : Nat) (v : Bool) (r : Nat) : put (brow X W) y ((brow X W y).set x (.bool v)) r = brow (putG X y x v) W r := by
  unfold put
  by_cases e : r = y
  · rw [if_pos e, e]
    apply List.ext_getElem
    · simp [brow]
    · intro i h1 h2
      rw [List.getElem_set]
      simp only [brow, List.getElem_map, List.getElem_range, putG]
      by_cases e2 : x = i
      · rw [if_pos e2, if_pos ⟨trivial, e2.symm⟩]
      · rw [if_neg e2, if_neg (fun h => e2 h.2.symm)]
  · rw [if_neg e]
    unfold brow
    apply List.map_congr_left
    intro i _
    simp only [putG]
    rw [if_neg (fun h => e h.1)]

/-- The modules while they are laid: rows, places, the writer with its bits. -/
structure LaySt (w0 wr : World) (gp G q bb ob H : Nat) (gs : Nat → Nat) (pl : List Nat) (v : Value) (bs : List Bool) (c : Bool) (L at_ : Nat) (X : Nat → Nat → Bool) : Prop where
  up : RowsUp wr G 28 4 H H gs (brow X H)
  laid : LaidTo c L bs at_ X
  pls : Arr wr gp 3 (ints pl)
  wrt : Arr wr q 56 [v, .string ⟨#[]⟩, .int .i64 0]
  bits : ∀ k, k < bs.length → wr.cell? ⟨bb, ob + k, none⟩ = some (.bool (bs.getD k false))
  bl : Below w0.heap.size w0 wr
/-- The blocks are apart. -/
structure LaySep (n0 gp G q bb H : Nat) (gs : Nat → Nat) : Prop where
  a : gp < G
  b : ∀ r, r < H → G < gs r
  c : ∀ r, r < H → gs r < q
  d : ∀ r, r < H → gs r < bb
  e : n0 ≤ gp
theorem LaySt.drewN {w0 wr : World} {gp G q bb ob H : Nat} {gs : Nat → Nat} {pl : List Nat} {v : Value} {bs : List Bool} {c : Bool} {L at_ : Nat} {X : Nat → Nat → Bool} (h : LaySt w0 wr gp G q bb ob H gs pl v bs c L at_ X) (n : Nat) :
    LaySt w0 (wr.drewN n) gp G q bb ob H gs pl v bs c L at_ X := ⟨h.up.drewN n, h.laid, h.pls, h.wrt, h.bits, below_drewN h.bl n⟩
theorem LaySt.drew {w0 wr : World} {gp G q bb ob H : Nat} {gs : Nat → Nat} {pl : List Nat} {v : Value} {bs : List Bool} {c : Bool} {L at_ : Nat} {X : Nat → Nat → Bool} (h : LaySt w0 wr gp G q bb ob H gs pl v bs c L at_ X) :
    LaySt w0 wr.drew gp G q bb ob H gs pl v bs c L at_ X := ⟨h.up.drew, h.laid, h.pls, h.wrt, h.bits, h.bl.drew⟩
theorem LaySt.step {w0 wr : World} {gp G q bb ob H : Nat} {gs : Nat → Nat} {pl : List Nat} {v : Value} {bs : List Bool} {c : Bool} {L i k j n : Nat} {X : Nat → Nat → Bool}
    (h : LaySt w0 wr gp G q bb ob H gs pl v bs c L (azIdx c L i k j n) X) (hs : LaySep w0.heap.size gp G q bb H gs) (hI : AzIn c L i k j n) (hH : H = azWhole c L) :
    LaySt w0 (wr.setCell ⟨gs (azY c L i k j n), azX c L i k j n, none⟩ (.bool (bs.getD (azIdx c L i k j n) false))) gp G q bb ob H gs pl v bs c L (azIdx c L i k j n + 1) (putG X (azY c L i k j n) (azX c L i k j n) (bs.getD (azIdx c L i k j n) false)) := by
  have hy : azY c L i k j n < H := by rw [hH]; exact azPl_lt (azV_lt hI)
  have b1 := hs.b _ hy
  have c1 := hs.c _ hy
  have d1 := hs.d _ hy
  refine ⟨(h.up.set hy).congr (fun r hr => brow_put X H _ _ _ r), h.laid.next hI, h.pls.far (by have := hs.a; simp; omega) _, h.wrt.far (by simp; omega) _, fun t ht => ?_, ?_⟩
  · rw [World.cell?_of_block (w := wr) (Below.heap_setCell wr _ _ bb (by simp; omega))]
    exact h.bits t ht
  · exact h.bl.setCell (by have := hs.a; have := hs.e; simp; omega) _

/-- A symbol's modules. -/
def LayOut (c : Bool) (L : Nat) (b : List Bool) (w : World) (e : Ending) (w' : World) : Prop :=
  ∃ G gs X, e = .returned (.slice (some ⟨G, 0, none⟩) (azWhole c L) (azWhole c L)) ∧ RowsUp w' G 28 4 (azWhole c L) (azWhole c L) gs (brow X (azWhole c L)) ∧ LaidTo c L b (azBitsN c L) X ∧ Below w.heap.size w w' ∧ w.heap.size ≤ G
end Go.Proofs.Ytliephokeafllaa
