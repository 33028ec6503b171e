/- FnQRPenaltyShare: the walk of the law. -/
import Derived.Test.YtjgckbccbambmaaPenD
namespace Go.Proofs.Ytjgckbccbambmaa
open Go.RowKit
set_option linter.unusedVariables false

set_option maxRecDepth 20000 in
set_option maxHeartbeats 4000000 in
theorem FnQRPenaltyShare_walk (w : World) (A : Option Addr) (n0 c0 : Nat) (zs : List (List Bool)) (hR : RowsIn w A n0 c0 zs) :
    Calls Try.prog 5 #[.slice A n0 c0] w fun e w' => e = .returned (.bool true) ∧ Below w.heap.size w w' := by
  have ft := fits A n0 c0 zs w hR
  obtain ⟨_, hnc, hcm, hX, hl⟩ := hR
  go_enter Try.func5, Try.ntmps5
  go_wp2_with fail
  refine ft.mono ?_
  rintro e w1 ⟨ok, rfl, rfl, hok⟩
  clear ft hl
  cases ok with
  | false =>
    go_wp2_with fail
    go_ret
    exact ⟨rfl, Below.refl _ _⟩
  | true =>
    obtain ⟨hn0, hl⟩ := hok rfl
    obtain ⟨n, hn⟩ : ∃ n, n = min n0 40 := ⟨_, rfl⟩
    have ce := cells A n0 c0 n zs w1 hX hl hn0 hnc hn
    have hn40 : n ≤ 40 := by omega
    clear hX hl hok hn
    go_wp2_with fail
    refine ce.mono ?_
    rintro e w2 ⟨G1, G2, rfl, hC, hS, hb2⟩
    have HC := hid hC
    have HS := hid hS
    have HB2 := hid hb2
    clear ce hC hS hb2
    generalize bitAt zs = B at *
    by_cases hz : n = 0
    · subst hz
      go_wp2_with fail
      go_ret
      exact ⟨rfl, HB2.out⟩
    · have hn1 : 1 ≤ n := by omega
      have hz' : ((n : Int) == 0) = false := by rw [beq_eq_false_iff_ne]; omega
      have hT1 : n * n ≤ 1600 := Nat.mul_le_mul hn40 hn40
      have hT0 : 1 ≤ n * n := Nat.mul_pos hn1 hn1
      have hTc : (n : Int) * (n : Int) = ((n * n : Nat) : Int) := by simp
      have hwr : IntKind.i64.wrap ((n : Int) * (n : Int)) = ((n * n : Nat) : Int) := by rw [hTc]; exact IntWalk.i64_in _ ⟨by omega, by omega⟩
      obtain ⟨b, o, Rr, Cr, he, hbw, hX⟩ := HS.out.opened (by omega)
      injection he with he
      injection he with he1 he2
      subst he1 he2
      have HX := hid (fun w' hw k hk => show w'.cell? ⟨G2, k, none⟩ = some (.slice (Rr k) n (Cr k)) ∧ Rd w' (Rr k) n (boolRow B n k) from by have := hX w' hw k hk; rw [boolRow_len, Nat.zero_add] at this; exact ⟨this.1, this.2.1⟩)
      obtain ⟨T, hT⟩ : ∃ T, T = n * n := ⟨_, rfl⟩
      have HT := hid hT
      rw [← hT] at hT1 hT0 hwr
      clear hX hz hTc hT
      go_wp2_with fail
      go_loopw [5, 30] (fun dv yv wr => ∃ y : Nat, y ≤ n ∧ yv = .int .i64 (y : Nat) ∧ dv = .int .i64 (darkTo B n y : Nat) ∧ w2 = wr) (fun _ yv _ => n - (intOf yv).toNat)
      case atStart => exact ⟨0, by omega, rfl, rfl, rfl⟩
      case round =>
        obtain ⟨y, hy, rfl, rfl, rfl⟩ := hrel
        by_cases hlt : y < n
        · have hlt' : (y : Int) < (n : Int) := by omega
          obtain ⟨c1, hr⟩ := HX.out w2 (Below.refl _ _) y hlt
          have hdl := darkTo_le B n y
          have hyn : y * n ≤ 1600 := Nat.mul_le_mul (show y ≤ 40 by omega) hn40
          have HD := hid (show darkTo B n (y + 1) = darkTo B n y + cntTo (B y) n from rfl)
          have HR := hid hr
          generalize darkTo B n y = d at *
          clear hr hwr
          go_wp2_with fail
          go_loopw [5, 36] (fun dv xv wr => ∃ x : Nat, x ≤ n ∧ xv = .int .i64 (x : Nat) ∧ dv = .int .i64 ((d + cntTo (B y) x : Nat)) ∧ w2 = wr) (fun _ xv _ => n - (intOf xv).toNat)
          case atStart => exact ⟨0, by omega, rfl, rfl, rfl⟩
          case round =>
            obtain ⟨x, hx, rfl, rfl, rfl⟩ := hrel
            have hcl := cntTo_le (B y) x
            have HC9 := hid (show cntTo (B y) (x + 1) = cntTo (B y) x + if B y x then 1 else 0 from rfl)
            by_cases hx1 : x < n
            · have hx1' : (x : Int) < (n : Int) := by omega
              obtain ⟨b4, o4, hA4, hb4, c2⟩ := rd_boolRow HR.out rfl x hx1
              generalize hRy : Rr y = Ry at *
              subst hA4
              generalize cntTo (B y) x = cx at *
              clear HR
              cases hb : B y x with
              | true =>
                rw [hb] at c2
                rw [hb, if_pos rfl] at HC9
                clear hb
                go_wp2_with fail
                go_roundw
                case rel => exact ⟨x + 1, by omega, by go_num, by rw [HC9.out]; go_num, by first | rfl | trivial⟩
                case measure => simp [intOf]; omega
              | false =>
                rw [hb] at c2
                rw [hb, if_neg (by simp)] at HC9
                clear hb
                go_wp2_with fail
                go_roundw
                case rel => exact ⟨x + 1, by omega, by go_num, by rw [HC9.out, Nat.add_zero], by first | rfl | trivial⟩
                case measure => simp [intOf]; omega
            · obtain rfl : x = n := by omega
              have hx1' : ¬ (x : Int) < (x : Int) := by omega
              generalize cntTo (B y) x = cx at *
              clear HC9 c1
              go_wp2_with fail
              go_roundw
              case rel => exact ⟨y + 1, by omega, by go_num, by rw [HD.out], by first | rfl | trivial⟩
              case measure => simp [intOf]; omega
        · obtain rfl : y = n := by omega
          have hlt' : ¬ (y : Int) < (y : Int) := by omega
          have hdl := darkTo_le B y y
          rw [← HT.out] at hdl
          have pe := penalty4 (some ⟨G1, 0, none⟩) y y B w2 HC.out hn1 hn40
          rw [← HT.out] at pe
          generalize hDD : darkTo B y y = d at *
          clear hwr hDD
          obtain ⟨dv, hdv⟩ : ∃ dv, dv = devOf d T := ⟨_, rfl⟩
          have hdT : dv ≤ T := by rw [hdv]; unfold devOf; omega
          have hmax : (if (2 * (d : Int) - (T : Int)) < ((T : Int) - 2 * (d : Int)) then ((T : Int) - 2 * (d : Int)) else (2 * (d : Int) - (T : Int))) = (dv : Int) := by
            rw [hdv]; unfold devOf; split <;> omega
          have HDV := hid hdv
          clear hdv
          go_wp2_with fail
          go_loopw [11] (fun sv wr => ∃ s P : Nat, sv = .int .i64 (s : Nat) ∧ Hid (P = T * s) ∧ s ≤ 10 ∧ 2 * P ≤ 20 * dv ∧ P ≤ 16000 ∧ w2 = wr) (fun sv _ => 11 - (intOf sv).toNat)
          case atStart => exact ⟨0, 0, rfl, hid (by simp), by omega, by omega, by omega, rfl⟩
          case round =>
            obtain ⟨s, P, rfl, HP, hs, hsP, hP, rfl⟩ := hrel
            have HPS := hid (show T * (s + 1) = P + T from by rw [HP.out, Nat.mul_succ])
            have hmul : (T : Int) * 2 * ((s : Int) + 1) = ((2 * (P + T) : Nat) : Int) := by
              rw [← HPS.out]; simp; rw [Int.mul_comm (T : Int) 2, Int.mul_assoc]
            have hmul2 : 2 * (T : Int) * ((s : Int) + 1) = ((2 * (P + T) : Nat) : Int) := by
              rw [← HPS.out]; simp; rw [Int.mul_assoc]
            by_cases hgo : 2 * ((P : Int) + (T : Int)) ≤ 20 * (dv : Int)
            · have hP2 : P + T ≤ 16000 := by omega
              have hs9 : s ≤ 9 := by
                rcases Nat.lt_or_ge s 10 with h1 | h1
                · omega
                · exfalso
                  have h2 : T * 10 ≤ T * s := Nat.mul_le_mul_left _ h1
                  rw [← HP.out] at h2
                  omega
              go_wp2_with fail
              go_roundw
              case rel => exact ⟨s + 1, P + T, by go_num, hid HPS.out.symm, by omega, by omega, by omega, by first | rfl | trivial⟩
              case measure => simp [intOf]; omega
            · have hsh : shareOf d T = 10 * s := by
                unfold shareOf
                rw [← HDV.out]
                congr 1
                refine Nat.div_eq_of_lt_le ?_ ?_
                · have e := Nat.mul_comm s T; rw [← HP.out] at e; omega
                · have e := Nat.mul_comm (s + 1) T; rw [HPS.out] at e; omega
              have hsc : ((shareOf d T : Nat) : Int) = 10 * (s : Int) := by rw [hsh]; simp
              have HSC := hid hsc
              clear hsh hsc
              generalize shareOf d T = sh at *
              have hsh2 := hid HSC.out
              go_wp2_with fail
              refine pe.mono ?_
              rintro e w5 ⟨rfl, hb5⟩
              have HB5 := hid hb5
              have hsc := HSC.out
              clear pe hb5
              rw [hsc]
              go_wp2_with fail
              go_ret
              exact ⟨by simp, HB2.out.trans (HB5.out.mono HB2.out.size)⟩
end Go.Proofs.Ytjgckbccbambmaa
