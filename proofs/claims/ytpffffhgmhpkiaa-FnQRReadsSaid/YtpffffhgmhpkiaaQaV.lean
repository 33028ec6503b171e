/- QR codes: BitMatrixParser.ReadVersion: the first versions. -/
import Derived.Test.YtpffffhgmhpkiaaQaU
namespace Go.Proofs.Ytpffffhgmhpkiaa
open Go.RowKit
set_option linter.unusedVariables false
set_option linter.unusedSimpArgs false

def VerRead (v p : Nat) (w : World) (e : Ending) (w' : World) : Prop :=
  ∃ q w1, e = .returned (.tuple #[.pointer (some ⟨q, 0, none⟩), Value.nilIface]) ∧ w1.cell? ⟨q, 0, none⟩ = some (.int .i64 v) ∧ q < w1.heap.size ∧ Below w.heap.size w w1 ∧ (w' = w1 ∨ w' = w1.setCell ⟨p, 1, none⟩ (.pointer (some ⟨q, 0, none⟩)))
set_option maxRecDepth 20000 in
set_option maxHeartbeats 4000000 in
theorem readVerLow (p q g n rs v : Nat) (ws : List Nat) (B : Nat → Nat → Bool) (w : World) (hP : Arr w p 127 (parC q none none)) (h : IsMat w q g 175 218 n n rs ws B) (hn : n = 17 + 4 * v) (hv1 : 1 ≤ v) (hv : v ≤ 6) :
    Calls Try.prog 39 #[.pointer (some ⟨p, 0, none⟩)] w (VerRead v p w) := by
  have c0 := hP.cell? 0
  have c1 := hP.cell? 1
  simp only [parC, List.getElem?_cons_zero, List.getElem?_cons_succ] at c0 c1
  have gh := getH q g n n rs ws B w h
  have gv := fun W => getVer v hv1 (by omega) W
  have e1 : ((n : Int) - 17) / 4 = (v : Int) := by omega
  have hv6 : (v : Int) ≤ 6 := by omega
  clear h hP
  go_enter Try.func39, Try.ntmps39
  go_wp2_with fail
  refine gh.mono ?_
  rintro e w1 ⟨rfl, rfl⟩
  clear gh hn
  go_wp2_with fail
  refine (gv _).mono ?_
  rintro e w1 ⟨qv, rfl, hI, hb⟩
  obtain ⟨C, E, z, hQ, _⟩ := hI
  have HQ := hid hQ
  have HB := hid hb
  clear gv hQ hb
  go_wp2_with fail
  go_ret2
  exact ⟨qv, w1, rfl, HQ.out.cell? 0, HQ.out.lt, HB.out, .inl rfl⟩
set_option maxRecDepth 20000 in
theorem verDim (q v : Nat) (hv : v ≤ 40) (w : World) (h0 : w.cell? ⟨q, 0, none⟩ = some (.int .i64 v)) : Calls Try.prog 70 #[.pointer (some ⟨q, 0, none⟩)] w fun e w' => e = .returned (.int .i64 (17 + 4 * (v : Int))) ∧ w = w' := by
  go_enter Try.func70, Try.ntmps70
  go_wp2_with fail
  go_ret
  exact ⟨rfl, rfl⟩
def g3 (B : Nat → Nat → Bool) (n i : Nat) : Bool := B (pv n i).2 (pv n i).1
set_option maxRecDepth 20000 in
set_option maxHeartbeats 16000000 in
theorem readVerHigh (p q g n rs v : Nat) (ws : List Nat) (B : Nat → Nat → Bool) (w : World) (hP : Arr w p 127 (parC q none none)) (h : IsMat w q g 175 218 n n rs ws B) (hn : n = 17 + 4 * v) (hv1 : 7 ≤ v) (hv : v ≤ 40) (hrs : rs ≤ 32)
    (hf : far (msb (g3 B n) 18 18) (tb (v - 7)) ≤ 3) :
    Calls Try.prog 39 #[.pointer (some ⟨p, 0, none⟩)] w (VerRead v p w) := by
  have c0 := hP.cell? 0
  have c1 := hP.cell? 1
  have c3 := hP.cell? 3
  simp only [parC, List.getElem?_cons_zero, List.getElem?_cons_succ] at c0 c1 c3
  have gh := getH q g n n rs ws B w h
  have CB := hid (fun x y a (hx : x < n) (hy : y < n) (ha : a < 1048576) => copyBit p q g n n rs x y a ws B w ⟨c0, c3⟩ h hx hy (by omega) hrs ha)
  have S3 := hid (fun a b (ha : a < 6) (hb : b < 3) => show 2 * msb (g3 B n) 18 (3 * a + b) + (if B (n - 9 - b) (5 - a) = true then 1 else 0) = msb (g3 B n) 18 (3 * a + (b + 1)) from by
    rw [← Nat.add_assoc, msb]; unfold g3 pv
    rw [show (18 - 1 - (3 * a + b)) / 3 = 5 - a by omega, show n - 11 + (18 - 1 - (3 * a + b)) % 3 = n - 9 - b by omega])
  have L3 := hid (fun j (hj : j ≤ 18) => show msb (g3 B n) 18 j < 1048576 from by
    have := msb_lt (g3 B n) 18 j
    have : 2 ^ j ≤ 2 ^ 18 := Nat.pow_le_pow_right (by decide) hj
    omega)
  have DV := hid (fun X (hX : X = msb (g3 B n) 18 18) W => decVer X (by rw [hX]; exact msb_lt _ _ 18) W)
  have NR := hid (fun X (hX : X = msb (g3 B n) 18 18) i (hi : i < 34) (h3 : far X (tb i) ≤ 3) => show i = v - 7 from near_one X i (v - 7) hi (by omega) h3 (by rw [hX]; exact hf))
  have NO := hid (fun X (hX : X = msb (g3 B n) 18 18) => show far X (tb (v - 7)) ≤ 3 from by rw [hX]; exact hf)
  have M0 := hid (show ∀ j, j = 0 → msb (g3 B n) 18 j = 0 from fun j e => by rw [e]; rfl)
  have HP := hid hP
  obtain ⟨m, hm⟩ : ∃ m, m = msb (g3 B n) 18 := ⟨_, rfl⟩
  rw [← hm] at S3 L3 DV NR NO M0
  have e1 : ((n : Int) - 17) / 4 = (v : Int) := by omega
  have hv6 : ¬ (v : Int) ≤ 6 := by omega
  have hn45 : 45 ≤ n := by omega
  have hn177 : n ≤ 177 := by omega
  have HN := hid hn
  clear h hP hf hm hn
  go_enter Try.func39, Try.ntmps39
  go_wp2_with fail
  refine gh.mono ?_
  rintro e w1 ⟨rfl, rfl⟩
  clear gh
  go_wp2_with fail
  clear e1
  go_loopw [6, 8] (fun av iv wr => ∃ a : Nat, a ≤ 6 ∧ av = .int .i64 (m (3 * a + 0)) ∧ iv = .int .i64 ((5 : Int) - (a : Int)) ∧ w = wr) (fun _ iv _ => (intOf iv + 1).toNat)
  case atStart => exact ⟨0, by omega, by rw [M0.out _ rfl]; rfl, rfl, rfl⟩
  case round =>
    obtain ⟨a, ha, rfl, rfl, rfl⟩ := hrel
    by_cases hlt : a < 6
    · have hlt' : (0 : Int) ≤ 5 - (a : Int) := by omega
      go_wp2_with fail
      clear hlt'
      clear ‹(a : Int) ≤ 5›
      go_loopw [6, 9] (fun av iv wr => ∃ b : Nat, b ≤ 3 ∧ av = .int .i64 (m (3 * a + b)) ∧ iv = .int .i64 ((n : Int) - 9 - (b : Int)) ∧ w = wr) (fun _ iv _ => (intOf iv).toNat)
      case atStart => exact ⟨0, by omega, rfl, by first | rfl | go_num | (congr 1; omega), rfl⟩
      case round =>
        obtain ⟨b, hb, rfl, rfl, rfl⟩ := hrel
        by_cases hlb : b < 3
        · have hlb' : (n : Int) - 11 ≤ (n : Int) - 9 - (b : Int) := by omega
          have hl1 := L3.out (3 * a + b) (by omega)
          have hl2 := L3.out (3 * a + (b + 1)) (by omega)
          have cb := CB.out (n - 9 - b) (5 - a) (m (3 * a + b)) (by omega) (by omega) hl1
          rw [S3.out a b hlt hlb, show ((n - 9 - b : Nat) : Int) = (n : Int) - 9 - (b : Int) by omega, show ((5 - a : Nat) : Int) = (5 : Int) - (a : Int) by omega] at cb
          obtain ⟨x, hx⟩ : ∃ x, x = m (3 * a + b) := ⟨_, rfl⟩
          obtain ⟨x2, hx2⟩ : ∃ x2, x2 = m (3 * a + (b + 1)) := ⟨_, rfl⟩
          rw [← hx] at cb hl1 ⊢
          rw [← hx2] at cb hl2
          have HX2 := hid hx2
          clear hx hx2
          go_wp2_with fail
          refine cb.mono ?_
          rintro e w1 ⟨rfl, rfl⟩
          clear cb
          go_wp2_with fail
          go_roundw
          case rel => first | exact ⟨b + 1, by omega, by rw [HX2.out], by first | go_num | (congr 1; omega), by first | rfl | trivial⟩ | (rw [HX2.out, show (n : Int) - 9 - (b : Int) - 1 = (n : Int) - 9 - ((b + 1 : Nat) : Int) by omega]; (repeat apply Exists.intro); exact ⟨⟨b + 1, by omega, rfl, rfl, by first | rfl | trivial⟩, rfl⟩)
          case measure => simp [intOf]; omega
        · obtain rfl : b = 3 := by omega
          have hlb' : ¬ (n : Int) - 11 ≤ (n : Int) - 9 - ((3 : Nat) : Int) := by omega
          have HE := hid (show m (3 * a + 3) = m (3 * (a + 1) + 0) from by congr 1)
          go_wp2_with fail
          go_roundw
          case rel => first | exact ⟨a + 1, by omega, by rw [HE.out], by first | go_num | (congr 1; omega), by first | rfl | trivial⟩ | (rw [HE.out, show (5 : Int) - (a : Int) - 1 = (5 : Int) - ((a + 1 : Nat) : Int) by omega]; (repeat apply Exists.intro); exact ⟨⟨a + 1, by omega, rfl, rfl, by first | rfl | trivial⟩, rfl⟩)
          case measure => simp [intOf]; omega
    · obtain rfl : a = 6 := by omega
      have hlt' : ¬ (0 : Int) ≤ 5 - ((6 : Nat) : Int) := by omega
      obtain ⟨X, hX⟩ : ∃ X, X = m (3 * 6 + 0) := ⟨_, rfl⟩
      rw [← hX]
      have D := DV.out X hX
      have NRX := hid (NR.out X hX)
      have NOX := hid (NO.out X hX)
      have HPL := hid HP.out.lt
      clear hX CB S3 L3 DV NR NO M0
      go_wp2_with fail
      refine (D _).mono ?_
      rintro e w1 hor
      rcases hor with ⟨i, hi, h3, qv, rfl, hI, hb⟩ | ⟨hall, _⟩
      · obtain rfl : i = v - 7 := NRX.out i hi h3
        rw [show v - 7 + 7 = v by omega] at hI
        obtain ⟨C, E, z, hQ, _⟩ := hI
        have q0 : w1.cell? ⟨qv, 0, none⟩ = some (.int .i64 (v : Nat)) := hQ.cell? 0
        have vd := verDim qv v hv w1 q0
        have hA := HP.out.below hb HPL.out
        have v1 := hA.cell? 1
        have fz1 := hA.frozen 1
        simp only [parC, List.getElem?_cons_zero, List.getElem?_cons_succ] at v1
        have e17 : (17 : Int) + 4 * (v : Int) = (n : Int) := by have := HN.out; omega
        have HQ := hid hQ
        have Q0 := hid q0
        have HB := hid hb
        clear D hQ hb hA q0 c0 c1 c3 h3
        go_wp2_with fail
        refine vd.mono ?_
        rintro e w2 ⟨rfl, rfl⟩
        clear vd
        go_wp2_with fail
        go_ret2
        exact ⟨qv, w1, rfl, Q0.out, HQ.out.lt, HB.out, .inr rfl⟩
      · exfalso
        have := hall (v - 7) (by omega)
        have := NOX.out
        omega
end Go.Proofs.Ytpffffhgmhpkiaa
