/- QR codes: BitMatrixParser.ReadFormatInformation. -/
import Derived.Test.YtpffffhgmhpkiaaQaT
namespace Go.Proofs.Ytpffffhgmhpkiaa
open Go.RowKit
set_option linter.unusedVariables false
set_option linter.unusedSimpArgs false

/-- The bits of the two copies, as the matrix has them (column first). -/
def g1 (B : Nat → Nat → Bool) (i : Nat) : Bool := B (p1 i).2 (p1 i).1
def g2 (B : Nat → Nat → Bool) (n i : Nat) : Bool := B (p2 n i).2 (p2 n i).1
def FmtRead (k p : Nat) (w : World) (e : Ending) (w' : World) : Prop :=
  ∃ q w1, e = .returned (.tuple #[.pointer (some ⟨q, 0, none⟩), Value.nilIface]) ∧ w1.cell? ⟨q, 0, none⟩ = some (.int .i64 ((k : Int) / 8)) ∧ w1.cell? ⟨q, 1, none⟩ = some (.int .u8 ((k : Int) % 8)) ∧
    Below w.heap.size w w1 ∧ w' = w1.setCell ⟨p, 2, none⟩ (.pointer (some ⟨q, 0, none⟩))
theorem msb_lt20 (f : Nat → Bool) (j : Nat) (h : j ≤ 18) : msb f 15 j < 1048576 := by
  have := msb_lt f 15 j
  have : 2 ^ j ≤ 2 ^ 18 := Nat.pow_le_pow_right (by decide) h
  omega
set_option maxRecDepth 20000 in
set_option maxHeartbeats 16000000 in
theorem readFmt (p q g n rs k v : Nat) (ws : List Nat) (B : Nat → Nat → Bool) (ver : Option Addr) (w : World) (hP : Arr w p 127 (parC q ver none)) (h : IsMat w q g 175 218 n n rs ws B) (hn : n = 17 + 4 * v) (hv1 : 1 ≤ v) (hv : v ≤ 40) (hrs : rs ≤ 32) (hk : k < 32)
    (hf1 : far (msb (g1 B) 15 15) (fb k) ≤ 3) (hf2 : far (msb (g2 B n) 15 15) (fb k) ≤ 3) :
    Calls Try.prog 40 #[.pointer (some ⟨p, 0, none⟩)] w (FmtRead k p w) := by
  have c0 := hP.cell? 0
  have c2 := hP.cell? 2
  have c3 := hP.cell? 3
  simp only [parC, List.getElem?_cons_zero, List.getElem?_cons_succ] at c0 c2 c3
  have hn177 : n ≤ 177 := by omega
  have hn21 : 21 ≤ n := by omega
  have CB := hid (fun x y a (hx : x < n) (hy : y < n) (ha : a < 1048576) => copyBit p q g n n rs x y a ws B w ⟨c0, c3⟩ h hx hy (by omega) hrs ha)
  have GH := hid (getH q g n n rs ws B w h)
  have S1 := hid (fun j x y (hj : j < 15) (e : p1 (14 - j) = (y, x)) => show 2 * msb (g1 B) 15 j + (if B x y = true then 1 else 0) = msb (g1 B) 15 (j + 1) from by rw [msb]; unfold g1; rw [show 15 - 1 - j = 14 - j by omega, e])
  have S2 := hid (fun j x y (hj : j < 15) (e : p2 n (14 - j) = (y, x)) => show 2 * msb (g2 B n) 15 j + (if B x y = true then 1 else 0) = msb (g2 B n) 15 (j + 1) from by rw [msb]; unfold g2; rw [show 15 - 1 - j = 14 - j by omega, e])
  have L1 := hid (fun j hj => msb_lt20 (g1 B) j hj)
  have L2 := hid (fun j hj => msb_lt20 (g2 B n) j hj)
  have M1 := hid (show ∀ j, j = 0 → msb (g1 B) 15 j = 0 from fun j e => by rw [e]; rfl)
  have M2 := hid (show ∀ j, j = 0 → msb (g2 B n) 15 j = 0 from fun j e => by rw [e]; rfl)
  have DF := hid (fun X Y (hX : X = msb (g1 B) 15 15) (hY : Y = msb (g2 B n) 15 15) W => decFmt X Y k (by rw [hX]; exact msb_lt _ _ 15) (by rw [hY]; exact msb_lt _ _ 15) hk (by rw [hX]; exact hf1) (by rw [hY]; exact hf2) W)
  have L3 := hid (show msb (g1 B) 15 15 < 32768 ∧ msb (g2 B n) 15 15 < 32768 from ⟨msb_lt _ _ 15, msb_lt _ _ 15⟩)
  have HP := hid hP
  obtain ⟨m1, hm1⟩ : ∃ m1, m1 = msb (g1 B) 15 := ⟨_, rfl⟩
  obtain ⟨m2, hm2⟩ : ∃ m2, m2 = msb (g2 B n) 15 := ⟨_, rfl⟩
  rw [← hm1] at S1 L1 M1 DF L3
  rw [← hm2] at S2 L2 M2 DF L3
  clear h hf1 hf2 hm1 hm2 hn hP
  go_enter Try.func40, Try.ntmps40
  go_wp2_with fail
  go_loopw [4, 5] (fun av iv wr => ∃ j : Nat, j ≤ 6 ∧ av = .int .i64 (m1 j) ∧ iv = .int .i64 (j : Nat) ∧ w = wr) (fun _ iv _ => 6 - (intOf iv).toNat)
  case atStart => exact ⟨0, by omega, by rw [M1.out 0 rfl]; rfl, rfl, rfl⟩
  case round =>
    obtain ⟨j, hj, rfl, rfl, rfl⟩ := hrel
    by_cases hlt : j < 6
    · have hlt' : (j : Int) < 6 := by omega
      have cb := CB.out j 8 (m1 j) (by omega) (by omega) (L1.out j (by omega))
      rw [S1.out j j 8 (by omega) (by unfold p1; rw [if_neg (by omega), if_neg (by omega), if_neg (by omega), if_neg (by omega)]; congr 1; omega)] at cb
      have hl1 := L1.out j (by omega)
      have hl2 := L1.out (j + 1) (by omega)
      generalize m1 j = a at *
      obtain ⟨a2, ha2⟩ : ∃ a2, a2 = m1 (j + 1) := ⟨_, rfl⟩
      rw [← ha2] at cb hl2
      have HA2 := hid ha2
      clear ha2
      go_wp2_with fail
      refine cb.mono ?_
      rintro e w1 ⟨rfl, rfl⟩
      clear cb
      go_wp2_with fail
      go_roundw
      case rel => exact ⟨j + 1, by omega, by rw [HA2.out], by go_num, by first | rfl | trivial⟩
      case measure => simp [intOf]; omega
    · obtain rfl : j = 6 := by omega
      have cb : Calls Try.prog 68 #[.pointer (some ⟨p, 0, none⟩), .int .i64 7, .int .i64 8, .int .i64 (m1 6 : Nat)] w _ := CB.out 7 8 (m1 6) (by omega) (by omega) (L1.out 6 (by omega))
      rw [S1.out 6 7 8 (by omega) (by rfl)] at cb
      have hl1 := L1.out 6 (by omega)
      have hl2 := L1.out (6 + 1) (by omega)
      go_wp2_with fail
      refine cb.mono ?_
      rintro e w1 ⟨rfl, rfl⟩
      clear cb hl1 hl2
      have cb : Calls Try.prog 68 #[.pointer (some ⟨p, 0, none⟩), .int .i64 8, .int .i64 8, .int .i64 (m1 7 : Nat)] w _ := CB.out 8 8 (m1 7) (by omega) (by omega) (L1.out 7 (by omega))
      rw [S1.out 7 8 8 (by omega) (by rfl)] at cb
      have hl1 := L1.out 7 (by omega)
      have hl2 := L1.out (7 + 1) (by omega)
      go_wp2_with fail
      refine cb.mono ?_
      rintro e w1 ⟨rfl, rfl⟩
      clear cb hl1 hl2
      have cb : Calls Try.prog 68 #[.pointer (some ⟨p, 0, none⟩), .int .i64 8, .int .i64 7, .int .i64 (m1 8 : Nat)] w _ := CB.out 8 7 (m1 8) (by omega) (by omega) (L1.out 8 (by omega))
      rw [S1.out 8 8 7 (by omega) (by rfl)] at cb
      have hl1 := L1.out 8 (by omega)
      have hl2 := L1.out (8 + 1) (by omega)
      go_wp2_with fail
      refine cb.mono ?_
      rintro e w1 ⟨rfl, rfl⟩
      clear cb hl1 hl2
      go_wp2_with fail
      go_loopw [4, 6] (fun av iv wr => ∃ t : Nat, t ≤ 6 ∧ av = .int .i64 (m1 (9 + t)) ∧ iv = .int .i64 ((5 : Int) - (t : Int)) ∧ w = wr) (fun _ iv _ => ((intOf iv) + 1).toNat)
      case atStart => exact ⟨0, by omega, by first | rfl | (rw [M2.out 0 rfl]; rfl), by first | rfl | go_num | (congr 1; omega), rfl⟩
      case round =>
        obtain ⟨t, ht, rfl, rfl, rfl⟩ := hrel
        have hl1 := L1.out (9 + t) (by omega)
        by_cases hlt : t < 6
        · have hl2 := L1.out (9 + (t + 1)) (by omega)
          have cb := CB.out (8) (5 - t) (m1 (9 + t)) (by omega) (by omega) hl1
          rw [S1.out (9 + t) (8) (5 - t) (by omega) (by unfold p1; (repeat' split) <;> first | omega | (congr 1; omega)), show 9 + t + 1 = 9 + (t + 1) by omega] at cb
          rw [show ((5 - t : Nat) : Int) = (5 : Int) - (t : Int) by omega] at cb
          obtain ⟨a, ha⟩ : ∃ a, a = m1 (9 + t) := ⟨_, rfl⟩
          obtain ⟨a2, ha2⟩ : ∃ a2, a2 = m1 (9 + (t + 1)) := ⟨_, rfl⟩
          rw [← ha] at cb hl1 ⊢
          rw [← ha2] at cb hl2
          have HA2 := hid ha2
          clear ha ha2
          have hlt' : (t : Int) < 6 := by omega
          go_wp2_with fail
          refine cb.mono ?_
          rintro e w1 ⟨rfl, rfl⟩
          clear cb
          go_wp2_with fail
          go_roundw
          case rel => first | exact ⟨t + 1, by omega, by rw [HA2.out], by first | go_num | (congr 1; omega), by first | rfl | trivial⟩ | ((repeat apply Exists.intro); exact ⟨⟨t + 1, by omega, by rw [HA2.out], by first | go_num | (congr 1; omega), by first | rfl | trivial⟩, rfl⟩)
          case measure => simp [intOf]; omega
        · obtain rfl : t = 6 := by omega
          have gh := GH.out
          go_wp2_with fail
          refine gh.mono ?_
          rintro e w1 ⟨rfl, rfl⟩
          clear gh
          go_wp2_with fail
          go_loopw [8, 10] (fun av iv wr => ∃ t : Nat, t ≤ 7 ∧ av = .int .i64 (m2 (0 + t)) ∧ iv = .int .i64 ((n : Int) - 1 - (t : Int)) ∧ w = wr) (fun _ iv _ => (intOf iv).toNat)
          case atStart => exact ⟨0, by omega, by first | rfl | (rw [M2.out 0 rfl]; rfl), by first | rfl | go_num | (congr 1; omega), rfl⟩
          case round =>
            obtain ⟨t, ht, rfl, rfl, rfl⟩ := hrel
            have hl1 := L2.out (0 + t) (by omega)
            by_cases hlt : t < 7
            · have hl2 := L2.out (0 + (t + 1)) (by omega)
              have cb := CB.out (8) (n - 1 - t) (m2 (0 + t)) (by omega) (by omega) hl1
              rw [S2.out (0 + t) (8) (n - 1 - t) (by omega) (by unfold p2; rw [if_neg (by omega)]; congr 1; omega), show 0 + t + 1 = 0 + (t + 1) by omega] at cb
              rw [show ((n - 1 - t : Nat) : Int) = (n : Int) - 1 - (t : Int) by omega] at cb
              obtain ⟨a, ha⟩ : ∃ a, a = m2 (0 + t) := ⟨_, rfl⟩
              obtain ⟨a2, ha2⟩ : ∃ a2, a2 = m2 (0 + (t + 1)) := ⟨_, rfl⟩
              rw [← ha] at cb hl1 ⊢
              rw [← ha2] at cb hl2
              have HA2 := hid ha2
              clear ha ha2
              have hlt' : (t : Int) < 7 := by omega
              go_wp2_with fail
              refine cb.mono ?_
              rintro e w1 ⟨rfl, rfl⟩
              clear cb
              go_wp2_with fail
              go_roundw
              case rel => first | exact ⟨t + 1, by omega, by rw [HA2.out], by first | go_num | (congr 1; omega), by first | rfl | trivial⟩ | ((repeat apply Exists.intro); exact ⟨⟨t + 1, by omega, by rw [HA2.out], by first | go_num | (congr 1; omega), by first | rfl | trivial⟩, rfl⟩)
              case measure => simp [intOf]; omega
            · obtain rfl : t = 7 := by omega
              go_wp2_with fail
              go_loopw [8, 11] (fun av iv wr => ∃ t : Nat, t ≤ 8 ∧ av = .int .i64 (m2 (7 + t)) ∧ iv = .int .i64 ((n : Int) - 8 + (t : Int)) ∧ w = wr) (fun _ iv _ => (n : Int).toNat - (intOf iv).toNat)
              case atStart => exact ⟨0, by omega, by first | rfl | (rw [M2.out 0 rfl]; rfl), by first | rfl | go_num | (congr 1; omega), rfl⟩
              case round =>
                obtain ⟨t, ht, rfl, rfl, rfl⟩ := hrel
                have hl1 := L2.out (7 + t) (by omega)
                by_cases hlt : t < 8
                · have hl2 := L2.out (7 + (t + 1)) (by omega)
                  have cb := CB.out (n - 8 + t) (8) (m2 (7 + t)) (by omega) (by omega) hl1
                  rw [S2.out (7 + t) (n - 8 + t) (8) (by omega) (by unfold p2; rw [if_pos (by omega)]; congr 1; omega), show 7 + t + 1 = 7 + (t + 1) by omega] at cb
                  rw [show ((n - 8 + t : Nat) : Int) = (n : Int) - 8 + (t : Int) by omega] at cb
                  obtain ⟨a, ha⟩ : ∃ a, a = m2 (7 + t) := ⟨_, rfl⟩
                  obtain ⟨a2, ha2⟩ : ∃ a2, a2 = m2 (7 + (t + 1)) := ⟨_, rfl⟩
                  rw [← ha] at cb hl1 ⊢
                  rw [← ha2] at cb hl2
                  have HA2 := hid ha2
                  clear ha ha2
                  have hlt' : (t : Int) < 8 := by omega
                  go_wp2_with fail
                  refine cb.mono ?_
                  rintro e w1 ⟨rfl, rfl⟩
                  clear cb
                  go_wp2_with fail
                  go_roundw
                  case rel => first | exact ⟨t + 1, by omega, by rw [HA2.out], by first | go_num | (congr 1; omega), by first | rfl | trivial⟩ | ((repeat apply Exists.intro); exact ⟨⟨t + 1, by omega, by rw [HA2.out], by first | go_num | (congr 1; omega), by first | rfl | trivial⟩, rfl⟩)
                  case measure => simp [intOf]; omega
                · obtain rfl : t = 8 := by omega
                  have hc2v : ∃ z, w.cell? ⟨p, 2, none⟩ = some z := ⟨_, c2⟩
                  have hfz := HP.out.frozen 2
                  have hX15 := L3.out
                  obtain ⟨X, hX⟩ : ∃ X, X = m1 (9 + 6) := ⟨_, rfl⟩
                  obtain ⟨Y, hY⟩ : ∃ Y, Y = m2 (7 + 8) := ⟨_, rfl⟩
                  rw [← hX, ← hY]
                  have D := DF.out X Y hX hY
                  have hXl : X < 32768 := by rw [hX]; exact hX15.1
                  have hYl : Y < 32768 := by rw [hY]; exact hX15.2
                  have HPL := hid HP.out.lt
                  clear hX hY hX15 hl1
                  have hlt2 : ¬ (n : Int) - 8 + 8 < (n : Int) := by omega
                  clear CB S1 S2 L1 L2 M1 M2 DF L3 GH hc2v hfz
                  go_wp2_with fail
                  refine (D _).mono ?_
                  rintro e w1 ⟨qf, rfl, f0, f1, hql, hb⟩
                  have hA := HP.out.below hb HPL.out
                  have v2 := hA.cell? 2
                  have fz2 := hA.frozen 2
                  have v2' := (hA.set 2 (.pointer (some ⟨qf, 0, none⟩))).cell? 2
                  simp only [parC, List.getElem?_cons_zero, List.getElem?_cons_succ, List.set_cons_zero, List.set_cons_succ] at v2 v2'
                  have F0 := hid f0
                  have F1 := hid f1
                  have HB := hid hb
                  clear f0 f1 hb hA D c0 c2 c3
                  go_wp2_with fail
                  go_ret2
                  exact ⟨qf, w1, rfl, F0.out, F1.out, HB.out, rfl⟩
end Go.Proofs.Ytpffffhgmhpkiaa
