/- laws.rvFour: four widths with a sum. -/
import Derived.Test.YtifegijnhlbedaaProg
import Derived.Test.YtifegijnhlbedaaMem
import Derived.Test.YtifegijnhlbedaaRvL
import Derived.KernelRfl
import Derived.Deep.LoopGhost
namespace Go.Proofs.Ytifegijnhlbedaa
open Go.RowKit
set_option linter.unusedVariables false

/-- A slice of bytes that came in. -/
def RdB (w : World) (A : Option Addr) (n : Nat) (B : Nat → Nat) : Prop :=
  (∀ i, B i < 256) ∧ ∀ i, i < n → ∃ b o, A = some ⟨b, o, none⟩ ∧ b < w.heap.size ∧ w.cell? ⟨b, o + i, none⟩ = some (.int .u8 (B i : Nat))
theorem rdB_of {w : World} {A : Option Addr} {n cap : Nat} {zs : List Int} (h : SlIn w A n cap (zs.map (Value.int .u8))) (hw : ∀ z ∈ zs, (Lit.int .u8 z).wf = true) : RdB w A n (fun i => (zs.getD i 0).toNat) := by
  have hl : zs.length = n := by simpa using h.1
  have each : ∀ i, 0 ≤ zs.getD i 0 ∧ zs.getD i 0 < 256 := fun i => by
    by_cases hi : i < zs.length
    · rw [show zs.getD i 0 = zs[i] by simp [List.getD, List.getElem?_eq_getElem hi]]
      have := wf_u8 (hw _ (List.getElem_mem hi)); omega
    · rw [show zs.getD i 0 = 0 by simp [List.getD, List.getElem?_eq_none (Nat.le_of_not_lt hi)]]; omega
  refine ⟨fun i => by have := each i; show (zs.getD i 0).toNat < 256; omega, fun i hi => ?_⟩
  obtain ⟨b, o, hA, hb, hc⟩ := h.rd.2 (by omega)
  refine ⟨b, o, hA, hb, ?_⟩
  rw [hc i (by simp; omega)]
  have hi2 : i < zs.length := by omega
  have := each i
  simp only [List.getElem_map]
  rw [show (((zs.getD i 0).toNat : Nat) : Int) = zs[i] by rw [Int.toNat_of_nonneg this.1]; simp [List.getD, List.getElem?_eq_getElem hi2]]

def nth4 (k a b c d : Nat) : Nat := if k % 4 = 0 then a else if k % 4 = 1 then b else if k % 4 = 2 then c else d
def dist4 (k a b c d most : Nat) : Nat := if nth4 k a b c d < most then 0 else if nth4 (k + 1) a b c d < most then 1 else if nth4 (k + 2) a b c d < most then 2 else 3
def meas4 (n i left a b c d most : Nat) : Nat := (n - i) + 4 * left + (if i < n then 4 else dist4 i a b c d most)
theorem dist4_le (k a b c d most : Nat) : dist4 k a b c d most ≤ 3 := by unfold dist4; repeat' split
                                                                         all_goals omega
theorem dist4_next (k a b c d most : Nat) (h : ¬ nth4 k a b c d < most) (ho : nth4 (k + 1) a b c d < most ∨ nth4 (k + 2) a b c d < most ∨ nth4 (k + 3) a b c d < most) : dist4 (k + 1) a b c d most + 1 ≤ dist4 k a b c d most := by
  unfold dist4
  rw [if_neg h]
  have e2 : k + 1 + 1 = k + 2 := rfl
  have e3 : k + 1 + 2 = k + 3 := rfl
  rw [e2, e3]
  by_cases h1 : nth4 (k + 1) a b c d < most
  · rw [if_pos h1, if_pos h1]; omega
  · rw [if_neg h1, if_neg h1]
    by_cases h2 : nth4 (k + 2) a b c d < most
    · rw [if_pos h2, if_pos h2]; omega
    · rw [if_neg h2, if_neg h2]
      have h3 : nth4 (k + 3) a b c d < most := by omega
      rw [if_pos h3]; omega
theorem meas4_step (n i left a b c d a' b' c' d' most : Nat) (hl : 0 < left) : meas4 n (i + 1) (left - 1) a' b' c' d' most + 1 ≤ meas4 n i left a b c d most := by
  unfold meas4
  have h1 := dist4_le (i + 1) a' b' c' d' most
  by_cases h : i < n
  · rw [if_pos h]; split <;> omega
  · rw [if_neg h, if_neg (by omega)]; omega
theorem meas4_skip (n i left a b c d most : Nat) (h : i < n ∨ (¬ nth4 i a b c d < most ∧ (nth4 (i + 1) a b c d < most ∨ nth4 (i + 2) a b c d < most ∨ nth4 (i + 3) a b c d < most))) : meas4 n (i + 1) left a b c d most + 1 ≤ meas4 n i left a b c d most := by
  unfold meas4
  have h1 := dist4_le (i + 1) a b c d most
  by_cases hi : i < n
  · rw [if_pos hi]; split <;> omega
  · rcases h with h | ⟨h, ho⟩
    · omega
    · rw [if_neg hi, if_neg (by omega)]
      have := dist4_next i a b c d most h ho
      omega
theorem nth4_some (i a b c d most : Nat) (h : a < most ∨ b < most ∨ c < most ∨ d < most) (hn : ¬ nth4 i a b c d < most) : nth4 (i + 1) a b c d < most ∨ nth4 (i + 2) a b c d < most ∨ nth4 (i + 3) a b c d < most := by
  unfold nth4 at *
  have hi : i % 4 = 0 ∨ i % 4 = 1 ∨ i % 4 = 2 ∨ i % 4 = 3 := by omega
  rcases hi with e | e | e | e <;>
    simp only [e, show (i + 1) % 4 = (i % 4 + 1) % 4 by omega, show (i + 2) % 4 = (i % 4 + 2) % 4 by omega, show (i + 3) % 4 = (i % 4 + 3) % 4 by omega] at * <;>
    simp at * <;> omega

def FourOut (sum most : Nat) (w : World) (e : Ending) (w' : World) : Prop :=
  ∃ a b c d : Nat, e = .returned (.slice (some ⟨w.heap.size, 0, none⟩) 4 4) ∧ Arr w' w.heap.size 3 [.int .i64 a, .int .i64 b, .int .i64 c, .int .i64 d] ∧
    (1 ≤ a ∧ a ≤ most) ∧ (1 ≤ b ∧ b ≤ most) ∧ (1 ≤ c ∧ c ≤ most) ∧ (1 ≤ d ∧ d ≤ most) ∧ a + b + c + d = sum ∧ Below w.heap.size w w'

set_option maxRecDepth 20000 in
set_option maxHeartbeats 40000000 in
theorem rvFour (A : Option Addr) (n cap : Nat) (B : Nat → Nat) (sum most : Nat) (w : World) (hR : RdB w A n B) (hn : n ≤ 2147483647) (hs1 : 4 ≤ sum) (hs2 : sum ≤ 4 * most) (hm : most ≤ 8) :
    Calls Try.prog 13 #[.slice A n cap, .int .i64 sum, .int .i64 most] w (FourOut sum most w) := by
  have hA0 := Arr.of_new w 3 #[.int .i64 1, .int .i64 1, .int .i64 1, .int .i64 1]
  have hB0 := (Below.refl w.heap.size w).alloc (Nat.le_refl _) (.cells #[.int .i64 1, .int .i64 1, .int .i64 1, .int .i64 1] 3)
  have HA0 := hid hA0
  have HB0 := hid hB0
  obtain ⟨hB256, hRd⟩ := hR
  have HR := hid hRd
  clear hA0 hB0 hRd
  go_enter Try.func13, Try.ntmps13
  go_wp2_with fail
  go_loopg [8, 9] (meas4 n 0 (sum - 4) 1 1 1 1 most) (fun gk lv iv wr => ∃ a b c d i left : Nat, lv = .int .i64 left ∧ iv = .int .i64 i ∧ Hid (Arr wr w.heap.size 3 [.int .i64 a, .int .i64 b, .int .i64 c, .int .i64 d]) ∧
    Hid (Below w.heap.size w wr) ∧ (1 ≤ a ∧ a ≤ most) ∧ (1 ≤ b ∧ b ≤ most) ∧ (1 ≤ c ∧ c ≤ most) ∧ (1 ≤ d ∧ d ≤ most) ∧ a + b + c + d + left = sum ∧ Hid (meas4 n i left a b c d most ≤ gk) ∧ i + meas4 n i left a b c d most ≤ 2147483800)
  case atStart => exact ⟨1, 1, 1, 1, 0, sum - 4, by (first | rfl | go_num | (rw [Int.natCast_sub (by omega)]; rfl)), rfl, HA0, HB0, by omega, by omega, by omega, by omega, by omega, hid (Nat.le_refl _), by have := dist4_le 0 1 1 1 1 most; unfold meas4; split <;> omega⟩
  case round =>
    obtain ⟨a, b, c, d, i, left, rfl, rfl, HA, HB, ⟨ha1, ha2⟩, ⟨hb1, hb2⟩, ⟨hc1, hc2⟩, ⟨hd1, hd2⟩, hsum, HM, hK⟩ := hrel
    have hl2 : left ≤ 32 := by omega
    have hi2 : i ≤ 2147483800 := by omega
    by_cases hl0 : 0 < left
    · have hl0' : (0 : Int) < (left : Int) := by omega
      have hsome : a < most ∨ b < most ∨ c < most ∨ d < most := by omega
      have ex : ∃ k : Nat, k < 4 ∧ (i < n → B i % 4 = k) ∧ (¬ i < n → i % 4 = k) := by
        by_cases h : i < n
        · exact ⟨B i % 4, by omega, fun _ => rfl, fun h2 => absurd h h2⟩
        · exact ⟨i % 4, by omega, fun h2 => absurd h2 h, fun _ => rfl⟩
      obtain ⟨k, hk4, hkB, hkI⟩ := ex
      have c0 := HA.out.cell? 0
      have c1 := HA.out.cell? 1
      have c2 := HA.out.cell? 2
      have c3 := HA.out.cell? 3
      have f0 := HA.out.frozen 0
      have f1 := HA.out.frozen 1
      have f2 := HA.out.frozen 2
      have f3 := HA.out.frozen 3
      simp only [List.getElem?_cons_zero, List.getElem?_cons_succ] at c0 c1 c2 c3
      have hstep : ∀ a' b' c' d', meas4 n (i + 1) (left - 1) a' b' c' d' most + 1 ≤ meas4 n i left a b c d most := fun a' b' c' d' => meas4_step n i left a b c d a' b' c' d' most hl0
      have hskip := meas4_skip n i left a b c d most
      have hnsome := nth4_some i a b c d most hsome
      have HST := hid hstep
      have HSK := hid hskip
      have HNS := hid hnsome
      have HSM := hid hsum
      have HK := hid hK
      have hlN : (left : Int) - 1 = ((left - 1 : Nat) : Int) := by omega
      have hgt := (HB.out).size
      clear hstep hskip hnsome hsome hsum hK
      have HKI := hid hkI
      by_cases hin : i < n
      · have hin' : (i : Int) < (n : Int) := by omega
        have hkb := hkB hin
        obtain ⟨rb, ro, rfl, hrb, hcell⟩ := HR.out i hin
        have hcell' : wr.cell? ⟨rb, ro + i, none⟩ = some (.int .u8 (B i : Nat)) := (HB.out.cell (p := ⟨rb, ro + i, none⟩) hrb).trans hcell
        have h256 := hB256 i
        clear hkB hkI hcell
        generalize B i = x at *
        have hx4 : (x : Int) % 4 = (k : Int) := by omega
        clear hkb
        have hk : k = 0 ∨ k = 1 ∨ k = 2 ∨ k = 3 := by omega
        rcases hk with rfl | rfl | rfl | rfl
        · by_cases hlt : a < most
          · have hlt' : (a : Int) < (most : Int) := by omega
            have HA2 := hid ((HA.out.set 0 (.int .i64 ((a : Int) + 1))))
            have HB2 := hid (HB.out.setCell (p := ⟨w.heap.size, 0, none⟩) (by simp) (.int .i64 ((a : Int) + 1)))
            go_wp2_with fail
            go_roundg (meas4 n (i + 1) (left - 1) (a + 1) b c d most)
            case rel => exact ⟨a + 1, b, c, d, i + 1, left - 1, rfl, by go_num, hid HA2.out, HB2, by omega, by omega, by omega, by omega, by have := HSM.out; omega, hid (Nat.le_refl _), by have := HST.out (a + 1) b c d; have := HK.out; omega⟩
            case measure => have := HST.out (a + 1) b c d; have := HM.out; omega
          · have hlt' : ¬ (a : Int) < (most : Int) := by omega
            have hsk := hid (HSK.out (.inl hin))
            go_wp2_with fail
            go_roundg (meas4 n (i + 1) left a b c d most)
            case rel => exact ⟨a, b, c, d, i + 1, left, rfl, by go_num, HA, HB, by omega, by omega, by omega, by omega, by have := HSM.out; omega, hid (Nat.le_refl _), by have := hsk.out; have := HK.out; omega⟩
            case measure => have := hsk.out; have := HM.out; omega
        · by_cases hlt : b < most
          · have hlt' : (b : Int) < (most : Int) := by omega
            have HA2 := hid ((HA.out.set 1 (.int .i64 ((b : Int) + 1))))
            have HB2 := hid (HB.out.setCell (p := ⟨w.heap.size, 1, none⟩) (by simp) (.int .i64 ((b : Int) + 1)))
            go_wp2_with fail
            go_roundg (meas4 n (i + 1) (left - 1) a (b + 1) c d most)
            case rel => exact ⟨a, b + 1, c, d, i + 1, left - 1, rfl, by go_num, hid HA2.out, HB2, by omega, by omega, by omega, by omega, by have := HSM.out; omega, hid (Nat.le_refl _), by have := HST.out a (b + 1) c d; have := HK.out; omega⟩
            case measure => have := HST.out a (b + 1) c d; have := HM.out; omega
          · have hlt' : ¬ (b : Int) < (most : Int) := by omega
            have hsk := hid (HSK.out (.inl hin))
            go_wp2_with fail
            go_roundg (meas4 n (i + 1) left a b c d most)
            case rel => exact ⟨a, b, c, d, i + 1, left, rfl, by go_num, HA, HB, by omega, by omega, by omega, by omega, by have := HSM.out; omega, hid (Nat.le_refl _), by have := hsk.out; have := HK.out; omega⟩
            case measure => have := hsk.out; have := HM.out; omega
        · by_cases hlt : c < most
          · have hlt' : (c : Int) < (most : Int) := by omega
            have HA2 := hid ((HA.out.set 2 (.int .i64 ((c : Int) + 1))))
            have HB2 := hid (HB.out.setCell (p := ⟨w.heap.size, 2, none⟩) (by simp) (.int .i64 ((c : Int) + 1)))
            go_wp2_with fail
            go_roundg (meas4 n (i + 1) (left - 1) a b (c + 1) d most)
            case rel => exact ⟨a, b, c + 1, d, i + 1, left - 1, rfl, by go_num, hid HA2.out, HB2, by omega, by omega, by omega, by omega, by have := HSM.out; omega, hid (Nat.le_refl _), by have := HST.out a b (c + 1) d; have := HK.out; omega⟩
            case measure => have := HST.out a b (c + 1) d; have := HM.out; omega
          · have hlt' : ¬ (c : Int) < (most : Int) := by omega
            have hsk := hid (HSK.out (.inl hin))
            go_wp2_with fail
            go_roundg (meas4 n (i + 1) left a b c d most)
            case rel => exact ⟨a, b, c, d, i + 1, left, rfl, by go_num, HA, HB, by omega, by omega, by omega, by omega, by have := HSM.out; omega, hid (Nat.le_refl _), by have := hsk.out; have := HK.out; omega⟩
            case measure => have := hsk.out; have := HM.out; omega
        · by_cases hlt : d < most
          · have hlt' : (d : Int) < (most : Int) := by omega
            have HA2 := hid ((HA.out.set 3 (.int .i64 ((d : Int) + 1))))
            have HB2 := hid (HB.out.setCell (p := ⟨w.heap.size, 3, none⟩) (by simp) (.int .i64 ((d : Int) + 1)))
            go_wp2_with fail
            go_roundg (meas4 n (i + 1) (left - 1) a b c (d + 1) most)
            case rel => exact ⟨a, b, c, d + 1, i + 1, left - 1, rfl, by go_num, hid HA2.out, HB2, by omega, by omega, by omega, by omega, by have := HSM.out; omega, hid (Nat.le_refl _), by have := HST.out a b c (d + 1); have := HK.out; omega⟩
            case measure => have := HST.out a b c (d + 1); have := HM.out; omega
          · have hlt' : ¬ (d : Int) < (most : Int) := by omega
            have hsk := hid (HSK.out (.inl hin))
            go_wp2_with fail
            go_roundg (meas4 n (i + 1) left a b c d most)
            case rel => exact ⟨a, b, c, d, i + 1, left, rfl, by go_num, HA, HB, by omega, by omega, by omega, by omega, by have := HSM.out; omega, hid (Nat.le_refl _), by have := hsk.out; have := HK.out; omega⟩
            case measure => have := hsk.out; have := HM.out; omega
      · have hin' : ¬ (i : Int) < (n : Int) := by omega
        have hkb := hkI hin
        clear hkB hkI
        have hx4 : (i : Int) % 4 = (k : Int) := by omega
        clear hkb
        have hk : k = 0 ∨ k = 1 ∨ k = 2 ∨ k = 3 := by omega
        rcases hk with rfl | rfl | rfl | rfl
        · by_cases hlt : a < most
          · have hlt' : (a : Int) < (most : Int) := by omega
            have HA2 := hid ((HA.out.set 0 (.int .i64 ((a : Int) + 1))))
            have HB2 := hid (HB.out.setCell (p := ⟨w.heap.size, 0, none⟩) (by simp) (.int .i64 ((a : Int) + 1)))
            go_wp2_with fail
            go_roundg (meas4 n (i + 1) (left - 1) (a + 1) b c d most)
            case rel => exact ⟨a + 1, b, c, d, i + 1, left - 1, rfl, by go_num, hid HA2.out, HB2, by omega, by omega, by omega, by omega, by have := HSM.out; omega, hid (Nat.le_refl _), by have := HST.out (a + 1) b c d; have := HK.out; omega⟩
            case measure => have := HST.out (a + 1) b c d; have := HM.out; omega
          · have hlt' : ¬ (a : Int) < (most : Int) := by omega
            have hnth : ¬ nth4 i a b c d < most := by unfold nth4; simp [HKI.out hin]; omega
            have hsk := hid (HSK.out (.inr ⟨hnth, HNS.out hnth⟩))
            clear hnth
            go_wp2_with fail
            go_roundg (meas4 n (i + 1) left a b c d most)
            case rel => exact ⟨a, b, c, d, i + 1, left, rfl, by go_num, HA, HB, by omega, by omega, by omega, by omega, by have := HSM.out; omega, hid (Nat.le_refl _), by have := hsk.out; have := HK.out; omega⟩
            case measure => have := hsk.out; have := HM.out; omega
        · by_cases hlt : b < most
          · have hlt' : (b : Int) < (most : Int) := by omega
            have HA2 := hid ((HA.out.set 1 (.int .i64 ((b : Int) + 1))))
            have HB2 := hid (HB.out.setCell (p := ⟨w.heap.size, 1, none⟩) (by simp) (.int .i64 ((b : Int) + 1)))
            go_wp2_with fail
            go_roundg (meas4 n (i + 1) (left - 1) a (b + 1) c d most)
            case rel => exact ⟨a, b + 1, c, d, i + 1, left - 1, rfl, by go_num, hid HA2.out, HB2, by omega, by omega, by omega, by omega, by have := HSM.out; omega, hid (Nat.le_refl _), by have := HST.out a (b + 1) c d; have := HK.out; omega⟩
            case measure => have := HST.out a (b + 1) c d; have := HM.out; omega
          · have hlt' : ¬ (b : Int) < (most : Int) := by omega
            have hnth : ¬ nth4 i a b c d < most := by unfold nth4; simp [HKI.out hin]; omega
            have hsk := hid (HSK.out (.inr ⟨hnth, HNS.out hnth⟩))
            clear hnth
            go_wp2_with fail
            go_roundg (meas4 n (i + 1) left a b c d most)
            case rel => exact ⟨a, b, c, d, i + 1, left, rfl, by go_num, HA, HB, by omega, by omega, by omega, by omega, by have := HSM.out; omega, hid (Nat.le_refl _), by have := hsk.out; have := HK.out; omega⟩
            case measure => have := hsk.out; have := HM.out; omega
        · by_cases hlt : c < most
          · have hlt' : (c : Int) < (most : Int) := by omega
            have HA2 := hid ((HA.out.set 2 (.int .i64 ((c : Int) + 1))))
            have HB2 := hid (HB.out.setCell (p := ⟨w.heap.size, 2, none⟩) (by simp) (.int .i64 ((c : Int) + 1)))
            go_wp2_with fail
            go_roundg (meas4 n (i + 1) (left - 1) a b (c + 1) d most)
            case rel => exact ⟨a, b, c + 1, d, i + 1, left - 1, rfl, by go_num, hid HA2.out, HB2, by omega, by omega, by omega, by omega, by have := HSM.out; omega, hid (Nat.le_refl _), by have := HST.out a b (c + 1) d; have := HK.out; omega⟩
            case measure => have := HST.out a b (c + 1) d; have := HM.out; omega
          · have hlt' : ¬ (c : Int) < (most : Int) := by omega
            have hnth : ¬ nth4 i a b c d < most := by unfold nth4; simp [HKI.out hin]; omega
            have hsk := hid (HSK.out (.inr ⟨hnth, HNS.out hnth⟩))
            clear hnth
            go_wp2_with fail
            go_roundg (meas4 n (i + 1) left a b c d most)
            case rel => exact ⟨a, b, c, d, i + 1, left, rfl, by go_num, HA, HB, by omega, by omega, by omega, by omega, by have := HSM.out; omega, hid (Nat.le_refl _), by have := hsk.out; have := HK.out; omega⟩
            case measure => have := hsk.out; have := HM.out; omega
        · by_cases hlt : d < most
          · have hlt' : (d : Int) < (most : Int) := by omega
            have HA2 := hid ((HA.out.set 3 (.int .i64 ((d : Int) + 1))))
            have HB2 := hid (HB.out.setCell (p := ⟨w.heap.size, 3, none⟩) (by simp) (.int .i64 ((d : Int) + 1)))
            go_wp2_with fail
            go_roundg (meas4 n (i + 1) (left - 1) a b c (d + 1) most)
            case rel => exact ⟨a, b, c, d + 1, i + 1, left - 1, rfl, by go_num, hid HA2.out, HB2, by omega, by omega, by omega, by omega, by have := HSM.out; omega, hid (Nat.le_refl _), by have := HST.out a b c (d + 1); have := HK.out; omega⟩
            case measure => have := HST.out a b c (d + 1); have := HM.out; omega
          · have hlt' : ¬ (d : Int) < (most : Int) := by omega
            have hnth : ¬ nth4 i a b c d < most := by unfold nth4; simp [HKI.out hin]; omega
            have hsk := hid (HSK.out (.inr ⟨hnth, HNS.out hnth⟩))
            clear hnth
            go_wp2_with fail
            go_roundg (meas4 n (i + 1) left a b c d most)
            case rel => exact ⟨a, b, c, d, i + 1, left, rfl, by go_num, HA, HB, by omega, by omega, by omega, by omega, by have := HSM.out; omega, hid (Nat.le_refl _), by have := hsk.out; have := HK.out; omega⟩
            case measure => have := hsk.out; have := HM.out; omega
    · obtain rfl : left = 0 := by omega
      go_wp2_with fail
      go_ret
      exact ⟨a, b, c, d, rfl, HA.out, ⟨ha1, ha2⟩, ⟨hb1, hb2⟩, ⟨hc1, hc2⟩, ⟨hd1, hd2⟩, by omega, HB.out⟩
end Go.Proofs.Ytifegijnhlbedaa
