/- QR codes: laws.qrFill, decoder.NewBitMatrixParser, impl.parser. -/
import Derived.Test.YtpffffhgmhpkiaaQaS
import Derived.Test.YtpffffhgmhpkiaaQaG
namespace Go.Proofs.Ytpffffhgmhpkiaa
open Go.RowKit
set_option linter.unusedVariables false
set_option linter.unusedSimpArgs false

/-- Bits in new memory. -/
def BitsOut (n : Nat) (w : World) (e : Ending) (w' : World) : Prop := ∃ (g : Nat) (l : List Bool), e = .returned (.slice (some ⟨g, 0, none⟩) n n) ∧ l.length = n ∧ Arr w' g 4 (l.map Value.bool) ∧ Below w.heap.size w w'
set_option maxRecDepth 20000 in
set_option maxHeartbeats 8000000 in
theorem fillQ (v : Nat) (h1 : 1 ≤ v) (h2 : v ≤ 40) (A : Option Addr) (n c : Nat) (zs : List Int) (w : World) (hR : SlIn w A n c (zs.map (Value.int .u8))) (hz : ∀ z ∈ zs, 0 ≤ z ∧ z ≤ 255) :
    Calls Try.prog 15 #[.slice A n c, .int .i64 v] w (BitsOut (8 * totN v) w) := by
  obtain ⟨i4, hi4, hb0, hb1, hb2⟩ := info_of infoBool
  have tq := fun W => totalQ v h1 h2 W
  have htl := tot_le v h1 h2
  obtain ⟨T, hT⟩ : ∃ T, T = totN v := ⟨_, rfl⟩
  rw [← hT] at tq htl ⊢
  obtain ⟨m, hm⟩ : ∃ m, m = 8 * T := ⟨_, rfl⟩
  rw [← hm]
  have hm1 : m ≤ 30000 := by omega
  have e8 : (8 : Int) * (T : Int) = (m : Int) := by omega
  have hmk := fun W => run_make (P := Try.prog) W 41 4 i4 (.bool false) Try.underlying41 hi4 hb0 .i64 .i64 (m : Int) (m : Int) (by omega) (by omega) (by rw [hb2]; omega) (by omega)
  simp only [hb1] at hmk
  have hlen : zs.length = n := by have := hR.1; simpa using this
  have hnc : n ≤ 9223372036854775807 := by have := hR.2.1; have := hR.2.2.1; unfold maxLen at this; omega
  have HR := hid hR.rd
  have HZ := hid hz
  have HL := hid hlen
  clear hT hm hR hz hlen
  go_enter Try.func15, Try.ntmps15
  go_wp2_with fail
  refine (tq _).mono ?_
  rintro e w1 ⟨rfl, hb⟩
  have HB0 := hid hb
  have HR1 := hid (HR.out.below hb)
  clear hb tq
  go_wp2_with fail
  have HA := hid (Arr.made w1 4 (.bool false) m)
  have HB := hid (show Below w1.heap.size w1 (w1.alloc (.cells (madeCells #[.bool false] m) 4)) from (Below.refl _ _).alloc (Nat.le_refl _) _)
  generalize w1.alloc (.cells (madeCells #[.bool false] m) 4) = w2 at *
  clear hmk e8
  go_loopw [13] (fun iv wr => ∃ (k : Nat) (l : List Bool), k ≤ m ∧ iv = .int .i64 (k : Nat) ∧ l.length = m ∧ Arr wr w1.heap.size 4 (l.map Value.bool) ∧ Below w1.heap.size w1 wr) (fun iv _ => m - (intOf iv).toNat)
  case atStart => exact ⟨0, List.replicate m false, by omega, rfl, by simp, by simpa using HA.out, HB.out⟩
  case round =>
    clear HA HB
    obtain ⟨k, l, hk, rfl, hl, hA, hB⟩ := hrel
    have HA := hid hA
    have HB := hid hB
    have HLL := hid hl
    by_cases hlt : k < m
    · have hlt' : (k : Int) < (m : Int) := by omega
      obtain ⟨v0, hv0⟩ := hA.has k (by rw [List.length_map]; omega)
      have fz := hA.frozen k
      clear hA hB hl
      by_cases hn0 : 0 < n
      · have hn0' : (0 : Int) < (n : Int) := by omega
        have hRk := HR1.out.below HB.out
        obtain ⟨b, o, rfl, hbl, hc⟩ := hRk.2 hn0
        have hmod : k / 8 % n < n := Nat.mod_lt _ hn0
        have hcz := hc (k / 8 % n) (by rw [hRk.1]; exact hmod)
        rw [List.getElem_map] at hcz
        have hze := HZ.out (zs[k / 8 % n]'(by rw [HL.out]; exact hmod)) (List.getElem_mem _)
        generalize zs[k / 8 % n]'(by rw [HL.out]; exact hmod) = z at *
        obtain ⟨q, hq⟩ : ∃ q, q = k / 8 % n := ⟨_, rfl⟩
        rw [← hq] at hcz hmod
        have eq1 : ((k : Int) / 8) % (n : Int) = (q : Int) := by rw [hq, Int.natCast_emod, Int.natCast_ediv]; rfl
        have n0 : ¬ (n : Int) = 0 := by omega
        clear hc hq hRk
        go_wp2_with fail
        generalize (bits BinOp.and IntKind.u8 (z / 2 ^ (k % 8)) 1 == 1) = bb
        go_roundw
        case rel => exact ⟨k + 1, l.set k bb, by omega, by go_num, by rw [List.length_set]; exact HLL.out, by rw [List.map_set]; exact HA.out.set k _, HB.out.setCell (Nat.le_refl _) _⟩
        case measure => simp [intOf]; omega
      · have hn0' : ¬ (0 : Int) < (n : Int) := by omega
        go_wp2_with fail
        go_roundw
        case rel => exact ⟨k + 1, l, by omega, by go_num, HLL.out, HA.out, HB.out⟩
        case measure => simp [intOf]; omega
    · obtain rfl : k = m := by omega
      have hlt' : ¬ (k : Int) < (k : Int) := by omega
      clear hA hB hl
      go_wp2_with fail
      go_ret
      exact ⟨_, l, rfl, HLL.out, HA.out, HB0.out.trans (HB.out.mono HB0.out.size)⟩
def parC (q : Nat) (v f : Option Addr) : List Value := [.pointer (some ⟨q, 0, none⟩), .pointer v, .pointer f, .bool false]
def ParOut (q : Nat) (w : World) (e : Ending) (w' : World) : Prop := ∃ p, e = .returned (.tuple #[.pointer (some ⟨p, 0, none⟩), Value.nilIface]) ∧ Arr w' p 127 (parC q none none) ∧ w.heap.size ≤ p ∧ Below w.heap.size w w'
set_option maxRecDepth 20000 in
theorem newPar (q g v n rs : Nat) (ws : List Nat) (B : Nat → Nat → Bool) (w : World) (hv1 : 1 ≤ v) (hv : v ≤ 40) (hn : n = 17 + 4 * v) (h : IsMat w q g 175 218 n n rs ws B) :
    Calls Try.prog 66 #[.pointer (some ⟨q, 0, none⟩)] w (ParOut q w) := by
  have gh := getH q g n n rs ws B w h
  have n1 : ¬ (n : Int) < 21 := by omega
  have n3 : bits .and .i64 (n : Int) 3 = 1 := by
    have := i64_and n 3 (by omega) (by omega)
    rw [show n &&& 3 = n % 2 ^ 2 from Nat.and_two_pow_sub_one_eq_mod n 2, show n % 2 ^ 2 = 1 by omega] at this
    exact this
  have HA := hid (Arr.of_new w 127 #[.pointer (some ⟨q, 0, none⟩), .pointer none, .pointer none, .bool false])
  have HB := hid ((Below.refl w.heap.size w).alloc (Nat.le_refl _) (.cells #[.pointer (some ⟨q, 0, none⟩), .pointer none, .pointer none, .bool false] 127))
  clear h hn
  go_enter Try.func66, Try.ntmps66
  go_wp2_with fail
  refine gh.mono ?_
  rintro e w1 ⟨rfl, rfl⟩
  clear gh
  go_wp2_with fail
  go_ret2
  exact ⟨_, rfl, HA.out, Nat.le_refl _, HB.out⟩
/-- A parser of modules. -/
def ParserOut (n rs : Nat) (B : Nat → Nat → Bool) (w : World) (e : Ending) (w' : World) : Prop :=
  ∃ p q g ws, e = .returned (.tuple #[.pointer (some ⟨p, 0, none⟩), Value.nilIface]) ∧ Arr w' p 127 (parC q none none) ∧ q < p ∧ w.heap.size ≤ g ∧ IsMat w' q g 175 218 n n rs ws B ∧ Below w.heap.size w w'
set_option maxRecDepth 20000 in
theorem parserQ (A : Option Addr) (c v n rs : Nat) (R : Nat → Nat → Bool) (w : World) (hv1 : 1 ≤ v) (hv : v ≤ 40) (hn : n = 17 + 4 * v) (hX : RdRows w A n (brow R n)) (hrs : rs = (n + 31) / 32) :
    Calls Try.prog 38 #[.slice A n c] w (ParserOut n rs (allB R n) w) := by
  have go := gridOf A c n n rs R w hX (by omega) (by omega) (by omega) (by omega) hrs
  have NP := hid (fun q g ws B W h => newPar q g v n rs ws B W hv1 hv hn h)
  clear hX hrs hn
  go_enter Try.func38, Try.ntmps38
  go_wp2_with fail
  refine go.mono ?_
  rintro e w1 ⟨q, g, ws, rfl, hg, hM, hb1⟩
  have HM := hid hM
  have HB1 := hid hb1
  have hql := hM.st.lt
  clear go hM hb1
  go_wp2_with fail
  refine (NP.out _ _ _ _ _ HM.out).mono ?_
  rintro e w2 ⟨p, rfl, hA, hp, hb2⟩
  have HA := hid hA
  have HB2 := hid hb2
  clear hA hb2
  go_wp2_with fail
  go_ret2
  exact ⟨p, q, g, ws, rfl, HA.out, by omega, hg, HM.out.below HB2.out hql, HB1.out.trans (HB2.out.mono HB1.out.size)⟩
end Go.Proofs.Ytpffffhgmhpkiaa
