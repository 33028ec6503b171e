/- FnRVCharacter: the walk of the law, a theorem for each group. Printed by gen_rvlaw.py. -/
import Derived.Test.YtifegijnhlbedaaRvC
import Derived.Test.YtifegijnhlbedaaRvD
import Derived.BigQuiet
import Derived.Deep.QuietTactic
namespace Go.Proofs.Ytifegijnhlbedaa
open Go.RowKit
set_option linter.unusedVariables false
theorem infoI : (Try.prog.info? 3).map (fun i => (i.zero, i.size, i.bytes)) = some (some (.int .i64 0), 1, 8) := by kernel_rfl
def four (a b c d : Nat) : List Value := [.int .i64 a, .int .i64 b, .int .i64 c, .int .i64 d]
theorem four_one (a b c d : Nat) : ∀ u ∈ four a b c d, u.oneCell' = true := by
  intro u hu
  simp only [four, List.mem_cons, List.not_mem_nil, or_false] at hu
  rcases hu with rfl | rfl | rfl | rfl <;> rfl
theorem four_cells {w : World} {b o : Nat} {x y z t : Nat} (h : ∀ k (h : k < (four x y z t).length), w.cell? ⟨b, o + k, none⟩ = some (four x y z t)[k]) :
    w.cell? ⟨b, o, none⟩ = some (.int .i64 x) ∧ w.cell? ⟨b, o + 1, none⟩ = some (.int .i64 y) ∧ w.cell? ⟨b, o + 2, none⟩ = some (.int .i64 z) ∧ w.cell? ⟨b, o + 3, none⟩ = some (.int .i64 t) :=
  ⟨h 0 (by simp [four]), h 1 (by simp [four]), h 2 (by simp [four]), h 3 (by simp [four])⟩
def NumBelow (v : Nat) (w : World) (e : Ending) (w' : World) : Prop := e = .returned (.int .i64 v) ∧ Below w.heap.size w w'
set_option maxHeartbeats 1000000 in
theorem implRSS (g a b c d most s : Nat) (one : Bool) (hg : (s, most, one) ∈ groups) (ha : 1 ≤ a ∧ a ≤ most) (hb : 1 ≤ b ∧ b ≤ most) (hc : 1 ≤ c ∧ c ≤ most) (hd : 1 ≤ d ∧ d ≤ most) (hs : a + b + c + d = s) (h20 : s ≤ 20) (hm : most ≤ 8) (w : World)
    (hA : Arr w g 3 (four a b c d)) :
    Calls Try.prog 14 #[.slice (some ⟨g, 0, none⟩) 4 4, .int .i64 most, .bool one] w (NumBelow (restVal most [a, b, c, d] (a + b + c + d) one) w) := by
  have ag := agree_of s most one hg a b c d ha hb hc hd hs
  have hR : Rd w (some ⟨g, 0, none⟩) 4 (four a b c d) := Rd.of_arr hA
  have F1 := hid (four_one a b c d)
  have HC := hid (fun W b' o' c' h => rssValue b' o' a b c d c' most one (by omega) hm ha.1 hb.1 hc.1 hd.1 (by omega) W (four_cells (w := W) h).1 (four_cells h).2.1 (four_cells h).2.2.1 (four_cells h).2.2.2)
  have HAG := hid ag
  generalize restVal most [a, b, c, d] (a + b + c + d) one = v at *
  obtain ⟨i0, hi, hz0, hz1, hz2⟩ := info_parts infoI
  have hl4 : (four a b c d).length = 4 := rfl
  have HL := hid hl4
  clear ag hA hl4
  generalize four a b c d = l at *
  go_enter Try.func14, Try.ntmps14
  go_wp2_with (at_builtin; refine wpList_app _ rfl _ _ 23 rfl w.heap.size 3 i0 _ 8 Try.underlying23 hi hz0 hz1 hz2 rfl _ [] rfl (Own.nil _ _ _) (some ⟨g, 0, none⟩) 4 4 l rfl hR F1.out (by simp [maxLen]) (by simp) (Nat.le_refl _) ?_)
  intro v1 w1 hO hg1 _
  try simp only [List.nil_append] at hO
  obtain ⟨A', c', rfl, hR', hc'⟩ := hO.form
  rw [HL.out] at hR' hc' ⊢
  have hB := hid ((Below.refl w.heap.size w).grown hg1 (Nat.le_refl _) (by simp [Value.ownBlock]))
  obtain ⟨b', o', rfl, hb', hcell⟩ := hR'.2 (by omega)
  have rs := HC.out w1 b' o' c' hcell
  clear hcell hR' hO hg1 hc' hb'
  rw [HAG.out] at rs
  go_wp2_with fail
  refine rs.mono ?_
  rintro e w2 ⟨rfl, rfl⟩
  go_wp2_with fail
  go_ret
  exact ⟨rfl, hB.out⟩
theorem restSpec (g a b c d most : Nat) (one : Bool) (ha : 1 ≤ a ∧ a ≤ most) (hb : 1 ≤ b ∧ b ≤ most) (hc : 1 ≤ c ∧ c ≤ most) (hd : 1 ≤ d ∧ d ≤ most) (h20 : a + b + c + d ≤ 20) (hm : most ≤ 8) (w : World)
    (hA : Arr w g 3 (four a b c d)) :
    Calls Try.prog 15 #[.slice (some ⟨g, 0, none⟩) 4 4, .int .i64 most, .bool one] w fun e w' => e = .returned (.int .i64 (restVal most [a, b, c, d] (a + b + c + d) one : Nat)) ∧ w = w' := by
  have hs : sumN [a, b, c, d] = a + b + c + d := by simp [sumN]; omega
  have := rvValue g 0 [a, b, c, d] 4 most hm one (by simp) (by simp) (fun x hx => by
    simp only [List.mem_cons, List.not_mem_nil, or_false] at hx
    rcases hx with rfl | rfl | rfl | rfl <;> omega) (by rw [hs]; exact h20) w ⟨hA.lt, fun k hk => by
      rw [Nat.zero_add, hA.cell? k]
      simp only [List.length_cons, List.length_nil] at hk
      have : k = 0 ∨ k = 1 ∨ k = 2 ∨ k = 3 := by omega
      rcases this with rfl | rfl | rfl | rfl <;> rfl⟩
  rw [hs] at this
  exact this
def FourAt (sum most : Nat) (w : World) (e : Ending) (w' : World) : Prop :=
  ∃ g a b c d : Nat, e = .returned (.slice (some ⟨g, 0, none⟩) 4 4) ∧ Arr w' g 3 (four a b c d) ∧
    (1 ≤ a ∧ a ≤ most) ∧ (1 ≤ b ∧ b ≤ most) ∧ (1 ≤ c ∧ c ≤ most) ∧ (1 ≤ d ∧ d ≤ most) ∧ a + b + c + d = sum ∧ Below w.heap.size w w'
theorem FourOut.at_ {sum most : Nat} {w w' : World} {e : Ending} (h : FourOut sum most w e w') : FourAt sum most w e w' := by
  obtain ⟨a, b, c, d, h1, h2, h3⟩ := h
  exact ⟨_, a, b, c, d, h1, h2, h3⟩
theorem RdB.below {w w' : World} {A : Option Addr} {n : Nat} {B : Nat → Nat} (h : RdB w A n B) (hb : Below w.heap.size w w') : RdB w' A n B := by
  refine ⟨h.1, fun i hi => ?_⟩
  obtain ⟨b, o, hA, hl, hc⟩ := h.2 i hi
  exact ⟨b, o, hA, Nat.lt_of_lt_of_le hl hb.size, (hb.cell (p := ⟨b, o + i, none⟩) hl).trans hc⟩


set_option maxRecDepth 20000 in
set_option maxHeartbeats 4000000 in
theorem rvOuter0 (A : Option Addr) (n cap : Nat) (B : Nat → Nat) (z : Int) (hz0 : 0 ≤ z) (hz1 : z ≤ 255) (hz5 : z % 5 = 0) (w : World) (hR : RdB w A n B) (hn : n ≤ 2147483647) :
    Calls Try.prog 5 #[.slice A n cap, .int .u8 z, .bool false] w fun e w' => e = .returned (.bool true) ∧ Below w.heap.size w w' := by
  have f1 : ∀ W, RdB W A n B → Calls Try.prog 13 #[.slice A n cap, .int .i64 12, .int .i64 8] W (FourAt 12 8 W) := fun W h => (rvFour A n cap B 12 8 W h hn (by decide) (by decide) (by decide)).mono fun _ _ h => h.at_
  have f2 : ∀ W, RdB W A n B → Calls Try.prog 13 #[.slice A n cap, .int .i64 4, .int .i64 1] W (FourAt 4 1 W) := fun W h => (rvFour A n cap B 4 1 W h hn (by decide) (by decide) (by decide)).mono fun _ _ h => h.at_
  have HB := hid fun (m : Nat) => below_drewN (Below.refl w.heap.size w) m
  have HR := hid hR
  have F1 := hid f1
  have F2 := hid f2
  have I1 := hid (fun g a b c d ha hb hc hd hs W hA => implRSS g a b c d 8 12 false (by decide) ha hb hc hd hs (by decide) (by decide) W hA)
  have S1 := hid (fun g a b c d ha hb hc hd h W hA => restSpec g a b c d 8 false ha hb hc hd h (by decide) W hA)
  have I2 := hid (fun g a b c d ha hb hc hd hs W hA => implRSS g a b c d 1 4 true (by decide) ha hb hc hd hs (by decide) (by decide) W hA)
  have S2 := hid (fun g a b c d ha hb hc hd h W hA => restSpec g a b c d 1 true ha hb hc hd h (by decide) W hA)
  clear f1 f2 hR
  have ix5 : ∀ w, (Instr.index 32 (.agg #[.int .i64 8, .int .i64 6, .int .i64 4, .int .i64 3, .int .i64 1]) (.int .u8 0)).run Try.prog w = .ok (.int .i64 8) w := fun _ => by kernel_rfl
  
  go_enter Try.func5, Try.ntmps5
  go_wp2_with fail
  go_quiet (fail)
  go_wp2_with fail
  all_goals
    generalize hwd : w.drewN _ = W0
    have B0 := hid (show Below w.heap.size w W0 from by rw [← hwd]; exact HB.out _)
    have R0 : RdB W0 A n B := HR.out.below B0.out
    have HR0 := hid R0
    clear hwd
    refine (F1.out _ R0).mono ?_
    clear R0
    rintro e w1 ⟨g1, a, b, c, d, rfl, hA, ha, hb, hc, hd, hs, hbl⟩
    have P1 := hid (show 1 = 1 ∧ _ ∧ _ ∧ _ ∧ _ ∧ _ from ⟨rfl, ha, hb, hc, hd, hs⟩)
    have A1 := hid hA
    have R1 := hid (HR0.out.below hbl)
    have B1 := hid (B0.out.trans (hbl.mono B0.out.size))
    have f2 := F2.out w1 R1.out
    clear ha hb hc hd hs hA hbl
    go_wp2_with fail
    refine f2.mono ?_
    clear f2
    rintro e w2 ⟨g2, a2, b2, c2, d2, rfl, hA, ha, hb, hc, hd, hs, hbl⟩
    have P2 := hid (show 1 = 1 ∧ _ ∧ _ ∧ _ ∧ _ ∧ _ from ⟨rfl, ha, hb, hc, hd, hs⟩)
    have A2 := hid hA
    have A12 := hid (A1.out.below hbl A1.out.lt)
    have B2 := hid (B1.out.trans (hbl.mono B1.out.size))
    obtain ⟨_, p1, p2, p3, p4, p5⟩ := P1.out
    obtain ⟨_, q1, q2, q3, q4, q5⟩ := P2.out
    have i1 := I1.out g1 a b c d p1 p2 p3 p4 p5 w2 A12.out
    have s1 := fun W (h : Arr W g1 3 (four a b c d)) => S1.out g1 a b c d p1 p2 p3 p4 (by omega) W h
    have i2 := fun W (h : Arr W g2 3 (four a2 b2 c2 d2)) => I2.out g2 a2 b2 c2 d2 q1 q2 q3 q4 q5 W h
    have s2 := fun W (h : Arr W g2 3 (four a2 b2 c2 d2)) => S2.out g2 a2 b2 c2 d2 q1 q2 q3 q4 (by omega) W h
    clear ha hb hc hd hs hA hbl p1 p2 p3 p4 p5 q1 q2 q3 q4 q5 I1 I2 S1 S2
    generalize restVal _ [a, b, c, d] _ _ = v1 at *
    generalize restVal _ [a2, b2, c2, d2] _ _ = v2 at *
    have S1 := hid s1
    have I2 := hid i2
    have S2 := hid s2
    clear s1 i2 s2
    go_wp2_with fail
    refine i1.mono ?_
    clear i1
    rintro e w3 ⟨rfl, hbl⟩
    have A13 := hid (A12.out.below hbl A12.out.lt)
    have A23 := hid (A2.out.below hbl A2.out.lt)
    have B3 := hid (B2.out.trans (hbl.mono B2.out.size))
    have s1 := S1.out w3 A13.out
    clear hbl
    go_wp2_with fail
    refine s1.mono ?_
    clear s1
    rintro e w4 ⟨rfl, rfl⟩
    have i2 := I2.out w3 A23.out
    go_wp2_with fail
    refine i2.mono ?_
    clear i2
    rintro e w5 ⟨rfl, hbl⟩
    have A24 := hid (A23.out.below hbl A23.out.lt)
    have B4 := hid (B3.out.trans (hbl.mono B3.out.size))
    have s2 := S2.out w5 A24.out
    clear hbl
    go_wp2_with fail
    refine s2.mono ?_
    clear s2
    rintro e w6 ⟨rfl, rfl⟩
    go_wp2_with fail
    go_ret
    exact ⟨rfl, B4.out⟩

set_option maxRecDepth 20000 in
set_option maxHeartbeats 4000000 in
theorem rvOuter1 (A : Option Addr) (n cap : Nat) (B : Nat → Nat) (z : Int) (hz0 : 0 ≤ z) (hz1 : z ≤ 255) (hz5 : z % 5 = 1) (w : World) (hR : RdB w A n B) (hn : n ≤ 2147483647) :
    Calls Try.prog 5 #[.slice A n cap, .int .u8 z, .bool false] w fun e w' => e = .returned (.bool true) ∧ Below w.heap.size w w' := by
  have f1 : ∀ W, RdB W A n B → Calls Try.prog 13 #[.slice A n cap, .int .i64 10, .int .i64 6] W (FourAt 10 6 W) := fun W h => (rvFour A n cap B 10 6 W h hn (by decide) (by decide) (by decide)).mono fun _ _ h => h.at_
  have f2 : ∀ W, RdB W A n B → Calls Try.prog 13 #[.slice A n cap, .int .i64 6, .int .i64 3] W (FourAt 6 3 W) := fun W h => (rvFour A n cap B 6 3 W h hn (by decide) (by decide) (by decide)).mono fun _ _ h => h.at_
  have HB := hid fun (m : Nat) => below_drewN (Below.refl w.heap.size w) m
  have HR := hid hR
  have F1 := hid f1
  have F2 := hid f2
  have I1 := hid (fun g a b c d ha hb hc hd hs W hA => implRSS g a b c d 6 10 false (by decide) ha hb hc hd hs (by decide) (by decide) W hA)
  have S1 := hid (fun g a b c d ha hb hc hd h W hA => restSpec g a b c d 6 false ha hb hc hd h (by decide) W hA)
  have I2 := hid (fun g a b c d ha hb hc hd hs W hA => implRSS g a b c d 3 6 true (by decide) ha hb hc hd hs (by decide) (by decide) W hA)
  have S2 := hid (fun g a b c d ha hb hc hd h W hA => restSpec g a b c d 3 true ha hb hc hd h (by decide) W hA)
  clear f1 f2 hR
  have ix5 : ∀ w, (Instr.index 32 (.agg #[.int .i64 8, .int .i64 6, .int .i64 4, .int .i64 3, .int .i64 1]) (.int .u8 1)).run Try.prog w = .ok (.int .i64 6) w := fun _ => by kernel_rfl
  
  go_enter Try.func5, Try.ntmps5
  go_wp2_with fail
  go_quiet (fail)
  go_wp2_with fail
  all_goals
    generalize hwd : w.drewN _ = W0
    have B0 := hid (show Below w.heap.size w W0 from by rw [← hwd]; exact HB.out _)
    have R0 : RdB W0 A n B := HR.out.below B0.out
    have HR0 := hid R0
    clear hwd
    refine (F1.out _ R0).mono ?_
    clear R0
    rintro e w1 ⟨g1, a, b, c, d, rfl, hA, ha, hb, hc, hd, hs, hbl⟩
    have P1 := hid (show 1 = 1 ∧ _ ∧ _ ∧ _ ∧ _ ∧ _ from ⟨rfl, ha, hb, hc, hd, hs⟩)
    have A1 := hid hA
    have R1 := hid (HR0.out.below hbl)
    have B1 := hid (B0.out.trans (hbl.mono B0.out.size))
    have f2 := F2.out w1 R1.out
    clear ha hb hc hd hs hA hbl
    go_wp2_with fail
    refine f2.mono ?_
    clear f2
    rintro e w2 ⟨g2, a2, b2, c2, d2, rfl, hA, ha, hb, hc, hd, hs, hbl⟩
    have P2 := hid (show 1 = 1 ∧ _ ∧ _ ∧ _ ∧ _ ∧ _ from ⟨rfl, ha, hb, hc, hd, hs⟩)
    have A2 := hid hA
    have A12 := hid (A1.out.below hbl A1.out.lt)
    have B2 := hid (B1.out.trans (hbl.mono B1.out.size))
    obtain ⟨_, p1, p2, p3, p4, p5⟩ := P1.out
    obtain ⟨_, q1, q2, q3, q4, q5⟩ := P2.out
    have i1 := I1.out g1 a b c d p1 p2 p3 p4 p5 w2 A12.out
    have s1 := fun W (h : Arr W g1 3 (four a b c d)) => S1.out g1 a b c d p1 p2 p3 p4 (by omega) W h
    have i2 := fun W (h : Arr W g2 3 (four a2 b2 c2 d2)) => I2.out g2 a2 b2 c2 d2 q1 q2 q3 q4 q5 W h
    have s2 := fun W (h : Arr W g2 3 (four a2 b2 c2 d2)) => S2.out g2 a2 b2 c2 d2 q1 q2 q3 q4 (by omega) W h
    clear ha hb hc hd hs hA hbl p1 p2 p3 p4 p5 q1 q2 q3 q4 q5 I1 I2 S1 S2
    generalize restVal _ [a, b, c, d] _ _ = v1 at *
    generalize restVal _ [a2, b2, c2, d2] _ _ = v2 at *
    have S1 := hid s1
    have I2 := hid i2
    have S2 := hid s2
    clear s1 i2 s2
    go_wp2_with fail
    refine i1.mono ?_
    clear i1
    rintro e w3 ⟨rfl, hbl⟩
    have A13 := hid (A12.out.below hbl A12.out.lt)
    have A23 := hid (A2.out.below hbl A2.out.lt)
    have B3 := hid (B2.out.trans (hbl.mono B2.out.size))
    have s1 := S1.out w3 A13.out
    clear hbl
    go_wp2_with fail
    refine s1.mono ?_
    clear s1
    rintro e w4 ⟨rfl, rfl⟩
    have i2 := I2.out w3 A23.out
    go_wp2_with fail
    refine i2.mono ?_
    clear i2
    rintro e w5 ⟨rfl, hbl⟩
    have A24 := hid (A23.out.below hbl A23.out.lt)
    have B4 := hid (B3.out.trans (hbl.mono B3.out.size))
    have s2 := S2.out w5 A24.out
    clear hbl
    go_wp2_with fail
    refine s2.mono ?_
    clear s2
    rintro e w6 ⟨rfl, rfl⟩
    go_wp2_with fail
    go_ret
    exact ⟨rfl, B4.out⟩

set_option maxRecDepth 20000 in
set_option maxHeartbeats 4000000 in
theorem rvOuter2 (A : Option Addr) (n cap : Nat) (B : Nat → Nat) (z : Int) (hz0 : 0 ≤ z) (hz1 : z ≤ 255) (hz5 : z % 5 = 2) (w : World) (hR : RdB w A n B) (hn : n ≤ 2147483647) :
    Calls Try.prog 5 #[.slice A n cap, .int .u8 z, .bool false] w fun e w' => e = .returned (.bool true) ∧ Below w.heap.size w w' := by
  have f1 : ∀ W, RdB W A n B → Calls Try.prog 13 #[.slice A n cap, .int .i64 8, .int .i64 4] W (FourAt 8 4 W) := fun W h => (rvFour A n cap B 8 4 W h hn (by decide) (by decide) (by decide)).mono fun _ _ h => h.at_
  have f2 : ∀ W, RdB W A n B → Calls Try.prog 13 #[.slice A n cap, .int .i64 8, .int .i64 5] W (FourAt 8 5 W) := fun W h => (rvFour A n cap B 8 5 W h hn (by decide) (by decide) (by decide)).mono fun _ _ h => h.at_
  have HB := hid fun (m : Nat) => below_drewN (Below.refl w.heap.size w) m
  have HR := hid hR
  have F1 := hid f1
  have F2 := hid f2
  have I1 := hid (fun g a b c d ha hb hc hd hs W hA => implRSS g a b c d 4 8 false (by decide) ha hb hc hd hs (by decide) (by decide) W hA)
  have S1 := hid (fun g a b c d ha hb hc hd h W hA => restSpec g a b c d 4 false ha hb hc hd h (by decide) W hA)
  have I2 := hid (fun g a b c d ha hb hc hd hs W hA => implRSS g a b c d 5 8 true (by decide) ha hb hc hd hs (by decide) (by decide) W hA)
  have S2 := hid (fun g a b c d ha hb hc hd h W hA => restSpec g a b c d 5 true ha hb hc hd h (by decide) W hA)
  clear f1 f2 hR
  have ix5 : ∀ w, (Instr.index 32 (.agg #[.int .i64 8, .int .i64 6, .int .i64 4, .int .i64 3, .int .i64 1]) (.int .u8 2)).run Try.prog w = .ok (.int .i64 4) w := fun _ => by kernel_rfl
  
  go_enter Try.func5, Try.ntmps5
  go_wp2_with fail
  go_quiet (fail)
  go_wp2_with fail
  all_goals
    generalize hwd : w.drewN _ = W0
    have B0 := hid (show Below w.heap.size w W0 from by rw [← hwd]; exact HB.out _)
    have R0 : RdB W0 A n B := HR.out.below B0.out
    have HR0 := hid R0
    clear hwd
    refine (F1.out _ R0).mono ?_
    clear R0
    rintro e w1 ⟨g1, a, b, c, d, rfl, hA, ha, hb, hc, hd, hs, hbl⟩
    have P1 := hid (show 1 = 1 ∧ _ ∧ _ ∧ _ ∧ _ ∧ _ from ⟨rfl, ha, hb, hc, hd, hs⟩)
    have A1 := hid hA
    have R1 := hid (HR0.out.below hbl)
    have B1 := hid (B0.out.trans (hbl.mono B0.out.size))
    have f2 := F2.out w1 R1.out
    clear ha hb hc hd hs hA hbl
    go_wp2_with fail
    refine f2.mono ?_
    clear f2
    rintro e w2 ⟨g2, a2, b2, c2, d2, rfl, hA, ha, hb, hc, hd, hs, hbl⟩
    have P2 := hid (show 1 = 1 ∧ _ ∧ _ ∧ _ ∧ _ ∧ _ from ⟨rfl, ha, hb, hc, hd, hs⟩)
    have A2 := hid hA
    have A12 := hid (A1.out.below hbl A1.out.lt)
    have B2 := hid (B1.out.trans (hbl.mono B1.out.size))
    obtain ⟨_, p1, p2, p3, p4, p5⟩ := P1.out
    obtain ⟨_, q1, q2, q3, q4, q5⟩ := P2.out
    have i1 := I1.out g1 a b c d p1 p2 p3 p4 p5 w2 A12.out
    have s1 := fun W (h : Arr W g1 3 (four a b c d)) => S1.out g1 a b c d p1 p2 p3 p4 (by omega) W h
    have i2 := fun W (h : Arr W g2 3 (four a2 b2 c2 d2)) => I2.out g2 a2 b2 c2 d2 q1 q2 q3 q4 q5 W h
    have s2 := fun W (h : Arr W g2 3 (four a2 b2 c2 d2)) => S2.out g2 a2 b2 c2 d2 q1 q2 q3 q4 (by omega) W h
    clear ha hb hc hd hs hA hbl p1 p2 p3 p4 p5 q1 q2 q3 q4 q5 I1 I2 S1 S2
    generalize restVal _ [a, b, c, d] _ _ = v1 at *
    generalize restVal _ [a2, b2, c2, d2] _ _ = v2 at *
    have S1 := hid s1
    have I2 := hid i2
    have S2 := hid s2
    clear s1 i2 s2
    go_wp2_with fail
    refine i1.mono ?_
    clear i1
    rintro e w3 ⟨rfl, hbl⟩
    have A13 := hid (A12.out.below hbl A12.out.lt)
    have A23 := hid (A2.out.below hbl A2.out.lt)
    have B3 := hid (B2.out.trans (hbl.mono B2.out.size))
    have s1 := S1.out w3 A13.out
    clear hbl
    go_wp2_with fail
    refine s1.mono ?_
    clear s1
    rintro e w4 ⟨rfl, rfl⟩
    have i2 := I2.out w3 A23.out
    go_wp2_with fail
    refine i2.mono ?_
    clear i2
    rintro e w5 ⟨rfl, hbl⟩
    have A24 := hid (A23.out.below hbl A23.out.lt)
    have B4 := hid (B3.out.trans (hbl.mono B3.out.size))
    have s2 := S2.out w5 A24.out
    clear hbl
    go_wp2_with fail
    refine s2.mono ?_
    clear s2
    rintro e w6 ⟨rfl, rfl⟩
    go_wp2_with fail
    go_ret
    exact ⟨rfl, B4.out⟩

set_option maxRecDepth 20000 in
set_option maxHeartbeats 4000000 in
theorem rvOuter3 (A : Option Addr) (n cap : Nat) (B : Nat → Nat) (z : Int) (hz0 : 0 ≤ z) (hz1 : z ≤ 255) (hz5 : z % 5 = 3) (w : World) (hR : RdB w A n B) (hn : n ≤ 2147483647) :
    Calls Try.prog 5 #[.slice A n cap, .int .u8 z, .bool false] w fun e w' => e = .returned (.bool true) ∧ Below w.heap.size w w' := by
  have f1 : ∀ W, RdB W A n B → Calls Try.prog 13 #[.slice A n cap, .int .i64 6, .int .i64 3] W (FourAt 6 3 W) := fun W h => (rvFour A n cap B 6 3 W h hn (by decide) (by decide) (by decide)).mono fun _ _ h => h.at_
  have f2 : ∀ W, RdB W A n B → Calls Try.prog 13 #[.slice A n cap, .int .i64 10, .int .i64 6] W (FourAt 10 6 W) := fun W h => (rvFour A n cap B 10 6 W h hn (by decide) (by decide) (by decide)).mono fun _ _ h => h.at_
  have HB := hid fun (m : Nat) => below_drewN (Below.refl w.heap.size w) m
  have HR := hid hR
  have F1 := hid f1
  have F2 := hid f2
  have I1 := hid (fun g a b c d ha hb hc hd hs W hA => implRSS g a b c d 3 6 false (by decide) ha hb hc hd hs (by decide) (by decide) W hA)
  have S1 := hid (fun g a b c d ha hb hc hd h W hA => restSpec g a b c d 3 false ha hb hc hd h (by decide) W hA)
  have I2 := hid (fun g a b c d ha hb hc hd hs W hA => implRSS g a b c d 6 10 true (by decide) ha hb hc hd hs (by decide) (by decide) W hA)
  have S2 := hid (fun g a b c d ha hb hc hd h W hA => restSpec g a b c d 6 true ha hb hc hd h (by decide) W hA)
  clear f1 f2 hR
  have ix5 : ∀ w, (Instr.index 32 (.agg #[.int .i64 8, .int .i64 6, .int .i64 4, .int .i64 3, .int .i64 1]) (.int .u8 3)).run Try.prog w = .ok (.int .i64 3) w := fun _ => by kernel_rfl
  
  go_enter Try.func5, Try.ntmps5
  go_wp2_with fail
  go_quiet (fail)
  go_wp2_with fail
  all_goals
    generalize hwd : w.drewN _ = W0
    have B0 := hid (show Below w.heap.size w W0 from by rw [← hwd]; exact HB.out _)
    have R0 : RdB W0 A n B := HR.out.below B0.out
    have HR0 := hid R0
    clear hwd
    refine (F1.out _ R0).mono ?_
    clear R0
    rintro e w1 ⟨g1, a, b, c, d, rfl, hA, ha, hb, hc, hd, hs, hbl⟩
    have P1 := hid (show 1 = 1 ∧ _ ∧ _ ∧ _ ∧ _ ∧ _ from ⟨rfl, ha, hb, hc, hd, hs⟩)
    have A1 := hid hA
    have R1 := hid (HR0.out.below hbl)
    have B1 := hid (B0.out.trans (hbl.mono B0.out.size))
    have f2 := F2.out w1 R1.out
    clear ha hb hc hd hs hA hbl
    go_wp2_with fail
    refine f2.mono ?_
    clear f2
    rintro e w2 ⟨g2, a2, b2, c2, d2, rfl, hA, ha, hb, hc, hd, hs, hbl⟩
    have P2 := hid (show 1 = 1 ∧ _ ∧ _ ∧ _ ∧ _ ∧ _ from ⟨rfl, ha, hb, hc, hd, hs⟩)
    have A2 := hid hA
    have A12 := hid (A1.out.below hbl A1.out.lt)
    have B2 := hid (B1.out.trans (hbl.mono B1.out.size))
    obtain ⟨_, p1, p2, p3, p4, p5⟩ := P1.out
    obtain ⟨_, q1, q2, q3, q4, q5⟩ := P2.out
    have i1 := I1.out g1 a b c d p1 p2 p3 p4 p5 w2 A12.out
    have s1 := fun W (h : Arr W g1 3 (four a b c d)) => S1.out g1 a b c d p1 p2 p3 p4 (by omega) W h
    have i2 := fun W (h : Arr W g2 3 (four a2 b2 c2 d2)) => I2.out g2 a2 b2 c2 d2 q1 q2 q3 q4 q5 W h
    have s2 := fun W (h : Arr W g2 3 (four a2 b2 c2 d2)) => S2.out g2 a2 b2 c2 d2 q1 q2 q3 q4 (by omega) W h
    clear ha hb hc hd hs hA hbl p1 p2 p3 p4 p5 q1 q2 q3 q4 q5 I1 I2 S1 S2
    generalize restVal _ [a, b, c, d] _ _ = v1 at *
    generalize restVal _ [a2, b2, c2, d2] _ _ = v2 at *
    have S1 := hid s1
    have I2 := hid i2
    have S2 := hid s2
    clear s1 i2 s2
    go_wp2_with fail
    refine i1.mono ?_
    clear i1
    rintro e w3 ⟨rfl, hbl⟩
    have A13 := hid (A12.out.below hbl A12.out.lt)
    have A23 := hid (A2.out.below hbl A2.out.lt)
    have B3 := hid (B2.out.trans (hbl.mono B2.out.size))
    have s1 := S1.out w3 A13.out
    clear hbl
    go_wp2_with fail
    refine s1.mono ?_
    clear s1
    rintro e w4 ⟨rfl, rfl⟩
    have i2 := I2.out w3 A23.out
    go_wp2_with fail
    refine i2.mono ?_
    clear i2
    rintro e w5 ⟨rfl, hbl⟩
    have A24 := hid (A23.out.below hbl A23.out.lt)
    have B4 := hid (B3.out.trans (hbl.mono B3.out.size))
    have s2 := S2.out w5 A24.out
    clear hbl
    go_wp2_with fail
    refine s2.mono ?_
    clear s2
    rintro e w6 ⟨rfl, rfl⟩
    go_wp2_with fail
    go_ret
    exact ⟨rfl, B4.out⟩

set_option maxRecDepth 20000 in
set_option maxHeartbeats 4000000 in
theorem rvOuter4 (A : Option Addr) (n cap : Nat) (B : Nat → Nat) (z : Int) (hz0 : 0 ≤ z) (hz1 : z ≤ 255) (hz5 : z % 5 = 4) (w : World) (hR : RdB w A n B) (hn : n ≤ 2147483647) :
    Calls Try.prog 5 #[.slice A n cap, .int .u8 z, .bool false] w fun e w' => e = .returned (.bool true) ∧ Below w.heap.size w w' := by
  have f1 : ∀ W, RdB W A n B → Calls Try.prog 13 #[.slice A n cap, .int .i64 4, .int .i64 1] W (FourAt 4 1 W) := fun W h => (rvFour A n cap B 4 1 W h hn (by decide) (by decide) (by decide)).mono fun _ _ h => h.at_
  have f2 : ∀ W, RdB W A n B → Calls Try.prog 13 #[.slice A n cap, .int .i64 12, .int .i64 8] W (FourAt 12 8 W) := fun W h => (rvFour A n cap B 12 8 W h hn (by decide) (by decide) (by decide)).mono fun _ _ h => h.at_
  have HB := hid fun (m : Nat) => below_drewN (Below.refl w.heap.size w) m
  have HR := hid hR
  have F1 := hid f1
  have F2 := hid f2
  have I1 := hid (fun g a b c d ha hb hc hd hs W hA => implRSS g a b c d 1 4 false (by decide) ha hb hc hd hs (by decide) (by decide) W hA)
  have S1 := hid (fun g a b c d ha hb hc hd h W hA => restSpec g a b c d 1 false ha hb hc hd h (by decide) W hA)
  have I2 := hid (fun g a b c d ha hb hc hd hs W hA => implRSS g a b c d 8 12 true (by decide) ha hb hc hd hs (by decide) (by decide) W hA)
  have S2 := hid (fun g a b c d ha hb hc hd h W hA => restSpec g a b c d 8 true ha hb hc hd h (by decide) W hA)
  clear f1 f2 hR
  have ix5 : ∀ w, (Instr.index 32 (.agg #[.int .i64 8, .int .i64 6, .int .i64 4, .int .i64 3, .int .i64 1]) (.int .u8 4)).run Try.prog w = .ok (.int .i64 1) w := fun _ => by kernel_rfl
  
  go_enter Try.func5, Try.ntmps5
  go_wp2_with fail
  go_quiet (fail)
  go_wp2_with fail
  all_goals
    generalize hwd : w.drewN _ = W0
    have B0 := hid (show Below w.heap.size w W0 from by rw [← hwd]; exact HB.out _)
    have R0 : RdB W0 A n B := HR.out.below B0.out
    have HR0 := hid R0
    clear hwd
    refine (F1.out _ R0).mono ?_
    clear R0
    rintro e w1 ⟨g1, a, b, c, d, rfl, hA, ha, hb, hc, hd, hs, hbl⟩
    have P1 := hid (show 1 = 1 ∧ _ ∧ _ ∧ _ ∧ _ ∧ _ from ⟨rfl, ha, hb, hc, hd, hs⟩)
    have A1 := hid hA
    have R1 := hid (HR0.out.below hbl)
    have B1 := hid (B0.out.trans (hbl.mono B0.out.size))
    have f2 := F2.out w1 R1.out
    clear ha hb hc hd hs hA hbl
    go_wp2_with fail
    refine f2.mono ?_
    clear f2
    rintro e w2 ⟨g2, a2, b2, c2, d2, rfl, hA, ha, hb, hc, hd, hs, hbl⟩
    have P2 := hid (show 1 = 1 ∧ _ ∧ _ ∧ _ ∧ _ ∧ _ from ⟨rfl, ha, hb, hc, hd, hs⟩)
    have A2 := hid hA
    have A12 := hid (A1.out.below hbl A1.out.lt)
    have B2 := hid (B1.out.trans (hbl.mono B1.out.size))
    obtain ⟨_, p1, p2, p3, p4, p5⟩ := P1.out
    obtain ⟨_, q1, q2, q3, q4, q5⟩ := P2.out
    have i1 := I1.out g1 a b c d p1 p2 p3 p4 p5 w2 A12.out
    have s1 := fun W (h : Arr W g1 3 (four a b c d)) => S1.out g1 a b c d p1 p2 p3 p4 (by omega) W h
    have i2 := fun W (h : Arr W g2 3 (four a2 b2 c2 d2)) => I2.out g2 a2 b2 c2 d2 q1 q2 q3 q4 q5 W h
    have s2 := fun W (h : Arr W g2 3 (four a2 b2 c2 d2)) => S2.out g2 a2 b2 c2 d2 q1 q2 q3 q4 (by omega) W h
    clear ha hb hc hd hs hA hbl p1 p2 p3 p4 p5 q1 q2 q3 q4 q5 I1 I2 S1 S2
    generalize restVal _ [a, b, c, d] _ _ = v1 at *
    generalize restVal _ [a2, b2, c2, d2] _ _ = v2 at *
    have S1 := hid s1
    have I2 := hid i2
    have S2 := hid s2
    clear s1 i2 s2
    go_wp2_with fail
    refine i1.mono ?_
    clear i1
    rintro e w3 ⟨rfl, hbl⟩
    have A13 := hid (A12.out.below hbl A12.out.lt)
    have A23 := hid (A2.out.below hbl A2.out.lt)
    have B3 := hid (B2.out.trans (hbl.mono B2.out.size))
    have s1 := S1.out w3 A13.out
    clear hbl
    go_wp2_with fail
    refine s1.mono ?_
    clear s1
    rintro e w4 ⟨rfl, rfl⟩
    have i2 := I2.out w3 A23.out
    go_wp2_with fail
    refine i2.mono ?_
    clear i2
    rintro e w5 ⟨rfl, hbl⟩
    have A24 := hid (A23.out.below hbl A23.out.lt)
    have B4 := hid (B3.out.trans (hbl.mono B3.out.size))
    have s2 := S2.out w5 A24.out
    clear hbl
    go_wp2_with fail
    refine s2.mono ?_
    clear s2
    rintro e w6 ⟨rfl, rfl⟩
    go_wp2_with fail
    go_ret
    exact ⟨rfl, B4.out⟩

set_option maxRecDepth 20000 in
set_option maxHeartbeats 4000000 in
theorem rvInner00 (A : Option Addr) (n cap : Nat) (B : Nat → Nat) (z : Int) (hz0 : 0 ≤ z) (hz1 : z ≤ 255) (hz5 : z % 5 = 0) (hz4 : z % 4 = 0) (w : World) (hR : RdB w A n B) (hn : n ≤ 2147483647) :
    Calls Try.prog 5 #[.slice A n cap, .int .u8 z, .bool true] w fun e w' => e = .returned (.bool true) ∧ Below w.heap.size w w' := by
  have f1 : ∀ W, RdB W A n B → Calls Try.prog 13 #[.slice A n cap, .int .i64 5, .int .i64 2] W (FourAt 5 2 W) := fun W h => (rvFour A n cap B 5 2 W h hn (by decide) (by decide) (by decide)).mono fun _ _ h => h.at_
  have f2 : ∀ W, RdB W A n B → Calls Try.prog 13 #[.slice A n cap, .int .i64 10, .int .i64 7] W (FourAt 10 7 W) := fun W h => (rvFour A n cap B 10 7 W h hn (by decide) (by decide) (by decide)).mono fun _ _ h => h.at_
  have HB := hid fun (m : Nat) => below_drewN (Below.refl w.heap.size w) m
  have HR := hid hR
  have F1 := hid f1
  have F2 := hid f2
  have I1 := hid (fun g a b c d ha hb hc hd hs W hA => implRSS g a b c d 2 5 true (by decide) ha hb hc hd hs (by decide) (by decide) W hA)
  have S1 := hid (fun g a b c d ha hb hc hd h W hA => restSpec g a b c d 2 true ha hb hc hd h (by decide) W hA)
  have I2 := hid (fun g a b c d ha hb hc hd hs W hA => implRSS g a b c d 7 10 false (by decide) ha hb hc hd hs (by decide) (by decide) W hA)
  have S2 := hid (fun g a b c d ha hb hc hd h W hA => restSpec g a b c d 7 false ha hb hc hd h (by decide) W hA)
  clear f1 f2 hR
  have ix5 : ∀ w, (Instr.index 32 (.agg #[.int .i64 8, .int .i64 6, .int .i64 4, .int .i64 3, .int .i64 1]) (.int .u8 0)).run Try.prog w = .ok (.int .i64 8) w := fun _ => by kernel_rfl
  have ix4 : ∀ w, (Instr.index 33 (.agg #[.int .i64 2, .int .i64 4, .int .i64 6, .int .i64 8]) (.int .u8 0)).run Try.prog w = .ok (.int .i64 2) w := fun _ => by kernel_rfl
  go_enter Try.func5, Try.ntmps5
  go_wp2_with fail
  go_quiet (fail)
  go_wp2_with fail
  go_quiet (fail)
  go_wp2_with fail
  all_goals
    generalize hwd : w.drewN _ = W0
    have B0 := hid (show Below w.heap.size w W0 from by rw [← hwd]; exact HB.out _)
    have R0 : RdB W0 A n B := HR.out.below B0.out
    have HR0 := hid R0
    clear hwd
    refine (F1.out _ R0).mono ?_
    clear R0
    rintro e w1 ⟨g1, a, b, c, d, rfl, hA, ha, hb, hc, hd, hs, hbl⟩
    have P1 := hid (show 1 = 1 ∧ _ ∧ _ ∧ _ ∧ _ ∧ _ from ⟨rfl, ha, hb, hc, hd, hs⟩)
    have A1 := hid hA
    have R1 := hid (HR0.out.below hbl)
    have B1 := hid (B0.out.trans (hbl.mono B0.out.size))
    have f2 := F2.out w1 R1.out
    clear ha hb hc hd hs hA hbl
    go_wp2_with fail
    refine f2.mono ?_
    clear f2
    rintro e w2 ⟨g2, a2, b2, c2, d2, rfl, hA, ha, hb, hc, hd, hs, hbl⟩
    have P2 := hid (show 1 = 1 ∧ _ ∧ _ ∧ _ ∧ _ ∧ _ from ⟨rfl, ha, hb, hc, hd, hs⟩)
    have A2 := hid hA
    have A12 := hid (A1.out.below hbl A1.out.lt)
    have B2 := hid (B1.out.trans (hbl.mono B1.out.size))
    obtain ⟨_, p1, p2, p3, p4, p5⟩ := P1.out
    obtain ⟨_, q1, q2, q3, q4, q5⟩ := P2.out
    have i1 := I1.out g1 a b c d p1 p2 p3 p4 p5 w2 A12.out
    have s1 := fun W (h : Arr W g1 3 (four a b c d)) => S1.out g1 a b c d p1 p2 p3 p4 (by omega) W h
    have i2 := fun W (h : Arr W g2 3 (four a2 b2 c2 d2)) => I2.out g2 a2 b2 c2 d2 q1 q2 q3 q4 q5 W h
    have s2 := fun W (h : Arr W g2 3 (four a2 b2 c2 d2)) => S2.out g2 a2 b2 c2 d2 q1 q2 q3 q4 (by omega) W h
    clear ha hb hc hd hs hA hbl p1 p2 p3 p4 p5 q1 q2 q3 q4 q5 I1 I2 S1 S2
    generalize restVal _ [a, b, c, d] _ _ = v1 at *
    generalize restVal _ [a2, b2, c2, d2] _ _ = v2 at *
    have S1 := hid s1
    have I2 := hid i2
    have S2 := hid s2
    clear s1 i2 s2
    go_wp2_with fail
    refine i1.mono ?_
    clear i1
    rintro e w3 ⟨rfl, hbl⟩
    have A13 := hid (A12.out.below hbl A12.out.lt)
    have A23 := hid (A2.out.below hbl A2.out.lt)
    have B3 := hid (B2.out.trans (hbl.mono B2.out.size))
    have s1 := S1.out w3 A13.out
    clear hbl
    go_wp2_with fail
    refine s1.mono ?_
    clear s1
    rintro e w4 ⟨rfl, rfl⟩
    have i2 := I2.out w3 A23.out
    go_wp2_with fail
    refine i2.mono ?_
    clear i2
    rintro e w5 ⟨rfl, hbl⟩
    have A24 := hid (A23.out.below hbl A23.out.lt)
    have B4 := hid (B3.out.trans (hbl.mono B3.out.size))
    have s2 := S2.out w5 A24.out
    clear hbl
    go_wp2_with fail
    refine s2.mono ?_
    clear s2
    rintro e w6 ⟨rfl, rfl⟩
    go_wp2_with fail
    go_ret
    exact ⟨rfl, B4.out⟩

set_option maxRecDepth 20000 in
set_option maxHeartbeats 4000000 in
theorem rvInner01 (A : Option Addr) (n cap : Nat) (B : Nat → Nat) (z : Int) (hz0 : 0 ≤ z) (hz1 : z ≤ 255) (hz5 : z % 5 = 0) (hz4 : z % 4 = 1) (w : World) (hR : RdB w A n B) (hn : n ≤ 2147483647) :
    Calls Try.prog 5 #[.slice A n cap, .int .u8 z, .bool true] w fun e w' => e = .returned (.bool true) ∧ Below w.heap.size w w' := by
  have f1 : ∀ W, RdB W A n B → Calls Try.prog 13 #[.slice A n cap, .int .i64 7, .int .i64 4] W (FourAt 7 4 W) := fun W h => (rvFour A n cap B 7 4 W h hn (by decide) (by decide) (by decide)).mono fun _ _ h => h.at_
  have f2 : ∀ W, RdB W A n B → Calls Try.prog 13 #[.slice A n cap, .int .i64 8, .int .i64 5] W (FourAt 8 5 W) := fun W h => (rvFour A n cap B 8 5 W h hn (by decide) (by decide) (by decide)).mono fun _ _ h => h.at_
  have HB := hid fun (m : Nat) => below_drewN (Below.refl w.heap.size w) m
  have HR := hid hR
  have F1 := hid f1
  have F2 := hid f2
  have I1 := hid (fun g a b c d ha hb hc hd hs W hA => implRSS g a b c d 4 7 true (by decide) ha hb hc hd hs (by decide) (by decide) W hA)
  have S1 := hid (fun g a b c d ha hb hc hd h W hA => restSpec g a b c d 4 true ha hb hc hd h (by decide) W hA)
  have I2 := hid (fun g a b c d ha hb hc hd hs W hA => implRSS g a b c d 5 8 false (by decide) ha hb hc hd hs (by decide) (by decide) W hA)
  have S2 := hid (fun g a b c d ha hb hc hd h W hA => restSpec g a b c d 5 false ha hb hc hd h (by decide) W hA)
  clear f1 f2 hR
  have ix5 : ∀ w, (Instr.index 32 (.agg #[.int .i64 8, .int .i64 6, .int .i64 4, .int .i64 3, .int .i64 1]) (.int .u8 0)).run Try.prog w = .ok (.int .i64 8) w := fun _ => by kernel_rfl
  have ix4 : ∀ w, (Instr.index 33 (.agg #[.int .i64 2, .int .i64 4, .int .i64 6, .int .i64 8]) (.int .u8 1)).run Try.prog w = .ok (.int .i64 4) w := fun _ => by kernel_rfl
  go_enter Try.func5, Try.ntmps5
  go_wp2_with fail
  go_quiet (fail)
  go_wp2_with fail
  go_quiet (fail)
  go_wp2_with fail
  all_goals
    generalize hwd : w.drewN _ = W0
    have B0 := hid (show Below w.heap.size w W0 from by rw [← hwd]; exact HB.out _)
    have R0 : RdB W0 A n B := HR.out.below B0.out
    have HR0 := hid R0
    clear hwd
    refine (F1.out _ R0).mono ?_
    clear R0
    rintro e w1 ⟨g1, a, b, c, d, rfl, hA, ha, hb, hc, hd, hs, hbl⟩
    have P1 := hid (show 1 = 1 ∧ _ ∧ _ ∧ _ ∧ _ ∧ _ from ⟨rfl, ha, hb, hc, hd, hs⟩)
    have A1 := hid hA
    have R1 := hid (HR0.out.below hbl)
    have B1 := hid (B0.out.trans (hbl.mono B0.out.size))
    have f2 := F2.out w1 R1.out
    clear ha hb hc hd hs hA hbl
    go_wp2_with fail
    refine f2.mono ?_
    clear f2
    rintro e w2 ⟨g2, a2, b2, c2, d2, rfl, hA, ha, hb, hc, hd, hs, hbl⟩
    have P2 := hid (show 1 = 1 ∧ _ ∧ _ ∧ _ ∧ _ ∧ _ from ⟨rfl, ha, hb, hc, hd, hs⟩)
    have A2 := hid hA
    have A12 := hid (A1.out.below hbl A1.out.lt)
    have B2 := hid (B1.out.trans (hbl.mono B1.out.size))
    obtain ⟨_, p1, p2, p3, p4, p5⟩ := P1.out
    obtain ⟨_, q1, q2, q3, q4, q5⟩ := P2.out
    have i1 := I1.out g1 a b c d p1 p2 p3 p4 p5 w2 A12.out
    have s1 := fun W (h : Arr W g1 3 (four a b c d)) => S1.out g1 a b c d p1 p2 p3 p4 (by omega) W h
    have i2 := fun W (h : Arr W g2 3 (four a2 b2 c2 d2)) => I2.out g2 a2 b2 c2 d2 q1 q2 q3 q4 q5 W h
    have s2 := fun W (h : Arr W g2 3 (four a2 b2 c2 d2)) => S2.out g2 a2 b2 c2 d2 q1 q2 q3 q4 (by omega) W h
    clear ha hb hc hd hs hA hbl p1 p2 p3 p4 p5 q1 q2 q3 q4 q5 I1 I2 S1 S2
    generalize restVal _ [a, b, c, d] _ _ = v1 at *
    generalize restVal _ [a2, b2, c2, d2] _ _ = v2 at *
    have S1 := hid s1
    have I2 := hid i2
    have S2 := hid s2
    clear s1 i2 s2
    go_wp2_with fail
    refine i1.mono ?_
    clear i1
    rintro e w3 ⟨rfl, hbl⟩
    have A13 := hid (A12.out.below hbl A12.out.lt)
    have A23 := hid (A2.out.below hbl A2.out.lt)
    have B3 := hid (B2.out.trans (hbl.mono B2.out.size))
    have s1 := S1.out w3 A13.out
    clear hbl
    go_wp2_with fail
    refine s1.mono ?_
    clear s1
    rintro e w4 ⟨rfl, rfl⟩
    have i2 := I2.out w3 A23.out
    go_wp2_with fail
    refine i2.mono ?_
    clear i2
    rintro e w5 ⟨rfl, hbl⟩
    have A24 := hid (A23.out.below hbl A23.out.lt)
    have B4 := hid (B3.out.trans (hbl.mono B3.out.size))
    have s2 := S2.out w5 A24.out
    clear hbl
    go_wp2_with fail
    refine s2.mono ?_
    clear s2
    rintro e w6 ⟨rfl, rfl⟩
    go_wp2_with fail
    go_ret
    exact ⟨rfl, B4.out⟩

set_option maxRecDepth 20000 in
set_option maxHeartbeats 4000000 in
theorem rvInner02 (A : Option Addr) (n cap : Nat) (B : Nat → Nat) (z : Int) (hz0 : 0 ≤ z) (hz1 : z ≤ 255) (hz5 : z % 5 = 0) (hz4 : z % 4 = 2) (w : World) (hR : RdB w A n B) (hn : n ≤ 2147483647) :
    Calls Try.prog 5 #[.slice A n cap, .int .u8 z, .bool true] w fun e w' => e = .returned (.bool true) ∧ Below w.heap.size w w' := by
  have f1 : ∀ W, RdB W A n B → Calls Try.prog 13 #[.slice A n cap, .int .i64 9, .int .i64 6] W (FourAt 9 6 W) := fun W h => (rvFour A n cap B 9 6 W h hn (by decide) (by decide) (by decide)).mono fun _ _ h => h.at_
  have f2 : ∀ W, RdB W A n B → Calls Try.prog 13 #[.slice A n cap, .int .i64 6, .int .i64 3] W (FourAt 6 3 W) := fun W h => (rvFour A n cap B 6 3 W h hn (by decide) (by decide) (by decide)).mono fun _ _ h => h.at_
  have HB := hid fun (m : Nat) => below_drewN (Below.refl w.heap.size w) m
  have HR := hid hR
  have F1 := hid f1
  have F2 := hid f2
  have I1 := hid (fun g a b c d ha hb hc hd hs W hA => implRSS g a b c d 6 9 true (by decide) ha hb hc hd hs (by decide) (by decide) W hA)
  have S1 := hid (fun g a b c d ha hb hc hd h W hA => restSpec g a b c d 6 true ha hb hc hd h (by decide) W hA)
  have I2 := hid (fun g a b c d ha hb hc hd hs W hA => implRSS g a b c d 3 6 false (by decide) ha hb hc hd hs (by decide) (by decide) W hA)
  have S2 := hid (fun g a b c d ha hb hc hd h W hA => restSpec g a b c d 3 false ha hb hc hd h (by decide) W hA)
  clear f1 f2 hR
  have ix5 : ∀ w, (Instr.index 32 (.agg #[.int .i64 8, .int .i64 6, .int .i64 4, .int .i64 3, .int .i64 1]) (.int .u8 0)).run Try.prog w = .ok (.int .i64 8) w := fun _ => by kernel_rfl
  have ix4 : ∀ w, (Instr.index 33 (.agg #[.int .i64 2, .int .i64 4, .int .i64 6, .int .i64 8]) (.int .u8 2)).run Try.prog w = .ok (.int .i64 6) w := fun _ => by kernel_rfl
  go_enter Try.func5, Try.ntmps5
  go_wp2_with fail
  go_quiet (fail)
  go_wp2_with fail
  go_quiet (fail)
  go_wp2_with fail
  all_goals
    generalize hwd : w.drewN _ = W0
    have B0 := hid (show Below w.heap.size w W0 from by rw [← hwd]; exact HB.out _)
    have R0 : RdB W0 A n B := HR.out.below B0.out
    have HR0 := hid R0
    clear hwd
    refine (F1.out _ R0).mono ?_
    clear R0
    rintro e w1 ⟨g1, a, b, c, d, rfl, hA, ha, hb, hc, hd, hs, hbl⟩
    have P1 := hid (show 1 = 1 ∧ _ ∧ _ ∧ _ ∧ _ ∧ _ from ⟨rfl, ha, hb, hc, hd, hs⟩)
    have A1 := hid hA
    have R1 := hid (HR0.out.below hbl)
    have B1 := hid (B0.out.trans (hbl.mono B0.out.size))
    have f2 := F2.out w1 R1.out
    clear ha hb hc hd hs hA hbl
    go_wp2_with fail
    refine f2.mono ?_
    clear f2
    rintro e w2 ⟨g2, a2, b2, c2, d2, rfl, hA, ha, hb, hc, hd, hs, hbl⟩
    have P2 := hid (show 1 = 1 ∧ _ ∧ _ ∧ _ ∧ _ ∧ _ from ⟨rfl, ha, hb, hc, hd, hs⟩)
    have A2 := hid hA
    have A12 := hid (A1.out.below hbl A1.out.lt)
    have B2 := hid (B1.out.trans (hbl.mono B1.out.size))
    obtain ⟨_, p1, p2, p3, p4, p5⟩ := P1.out
    obtain ⟨_, q1, q2, q3, q4, q5⟩ := P2.out
    have i1 := I1.out g1 a b c d p1 p2 p3 p4 p5 w2 A12.out
    have s1 := fun W (h : Arr W g1 3 (four a b c d)) => S1.out g1 a b c d p1 p2 p3 p4 (by omega) W h
    have i2 := fun W (h : Arr W g2 3 (four a2 b2 c2 d2)) => I2.out g2 a2 b2 c2 d2 q1 q2 q3 q4 q5 W h
    have s2 := fun W (h : Arr W g2 3 (four a2 b2 c2 d2)) => S2.out g2 a2 b2 c2 d2 q1 q2 q3 q4 (by omega) W h
    clear ha hb hc hd hs hA hbl p1 p2 p3 p4 p5 q1 q2 q3 q4 q5 I1 I2 S1 S2
    generalize restVal _ [a, b, c, d] _ _ = v1 at *
    generalize restVal _ [a2, b2, c2, d2] _ _ = v2 at *
    have S1 := hid s1
    have I2 := hid i2
    have S2 := hid s2
    clear s1 i2 s2
    go_wp2_with fail
    refine i1.mono ?_
    clear i1
    rintro e w3 ⟨rfl, hbl⟩
    have A13 := hid (A12.out.below hbl A12.out.lt)
    have A23 := hid (A2.out.below hbl A2.out.lt)
    have B3 := hid (B2.out.trans (hbl.mono B2.out.size))
    have s1 := S1.out w3 A13.out
    clear hbl
    go_wp2_with fail
    refine s1.mono ?_
    clear s1
    rintro e w4 ⟨rfl, rfl⟩
    have i2 := I2.out w3 A23.out
    go_wp2_with fail
    refine i2.mono ?_
    clear i2
    rintro e w5 ⟨rfl, hbl⟩
    have A24 := hid (A23.out.below hbl A23.out.lt)
    have B4 := hid (B3.out.trans (hbl.mono B3.out.size))
    have s2 := S2.out w5 A24.out
    clear hbl
    go_wp2_with fail
    refine s2.mono ?_
    clear s2
    rintro e w6 ⟨rfl, rfl⟩
    go_wp2_with fail
    go_ret
    exact ⟨rfl, B4.out⟩

set_option maxRecDepth 20000 in
set_option maxHeartbeats 4000000 in
theorem rvInner03 (A : Option Addr) (n cap : Nat) (B : Nat → Nat) (z : Int) (hz0 : 0 ≤ z) (hz1 : z ≤ 255) (hz5 : z % 5 = 0) (hz4 : z % 4 = 3) (w : World) (hR : RdB w A n B) (hn : n ≤ 2147483647) :
    Calls Try.prog 5 #[.slice A n cap, .int .u8 z, .bool true] w fun e w' => e = .returned (.bool true) ∧ Below w.heap.size w w' := by
  have f1 : ∀ W, RdB W A n B → Calls Try.prog 13 #[.slice A n cap, .int .i64 11, .int .i64 8] W (FourAt 11 8 W) := fun W h => (rvFour A n cap B 11 8 W h hn (by decide) (by decide) (by decide)).mono fun _ _ h => h.at_
  have f2 : ∀ W, RdB W A n B → Calls Try.prog 13 #[.slice A n cap, .int .i64 4, .int .i64 1] W (FourAt 4 1 W) := fun W h => (rvFour A n cap B 4 1 W h hn (by decide) (by decide) (by decide)).mono fun _ _ h => h.at_
  have HB := hid fun (m : Nat) => below_drewN (Below.refl w.heap.size w) m
  have HR := hid hR
  have F1 := hid f1
  have F2 := hid f2
  have I1 := hid (fun g a b c d ha hb hc hd hs W hA => implRSS g a b c d 8 11 true (by decide) ha hb hc hd hs (by decide) (by decide) W hA)
  have S1 := hid (fun g a b c d ha hb hc hd h W hA => restSpec g a b c d 8 true ha hb hc hd h (by decide) W hA)
  have I2 := hid (fun g a b c d ha hb hc hd hs W hA => implRSS g a b c d 1 4 false (by decide) ha hb hc hd hs (by decide) (by decide) W hA)
  have S2 := hid (fun g a b c d ha hb hc hd h W hA => restSpec g a b c d 1 false ha hb hc hd h (by decide) W hA)
  clear f1 f2 hR
  have ix5 : ∀ w, (Instr.index 32 (.agg #[.int .i64 8, .int .i64 6, .int .i64 4, .int .i64 3, .int .i64 1]) (.int .u8 0)).run Try.prog w = .ok (.int .i64 8) w := fun _ => by kernel_rfl
  have ix4 : ∀ w, (Instr.index 33 (.agg #[.int .i64 2, .int .i64 4, .int .i64 6, .int .i64 8]) (.int .u8 3)).run Try.prog w = .ok (.int .i64 8) w := fun _ => by kernel_rfl
  go_enter Try.func5, Try.ntmps5
  go_wp2_with fail
  go_quiet (fail)
  go_wp2_with fail
  go_quiet (fail)
  go_wp2_with fail
  all_goals
    generalize hwd : w.drewN _ = W0
    have B0 := hid (show Below w.heap.size w W0 from by rw [← hwd]; exact HB.out _)
    have R0 : RdB W0 A n B := HR.out.below B0.out
    have HR0 := hid R0
    clear hwd
    refine (F1.out _ R0).mono ?_
    clear R0
    rintro e w1 ⟨g1, a, b, c, d, rfl, hA, ha, hb, hc, hd, hs, hbl⟩
    have P1 := hid (show 1 = 1 ∧ _ ∧ _ ∧ _ ∧ _ ∧ _ from ⟨rfl, ha, hb, hc, hd, hs⟩)
    have A1 := hid hA
    have R1 := hid (HR0.out.below hbl)
    have B1 := hid (B0.out.trans (hbl.mono B0.out.size))
    have f2 := F2.out w1 R1.out
    clear ha hb hc hd hs hA hbl
    go_wp2_with fail
    refine f2.mono ?_
    clear f2
    rintro e w2 ⟨g2, a2, b2, c2, d2, rfl, hA, ha, hb, hc, hd, hs, hbl⟩
    have P2 := hid (show 1 = 1 ∧ _ ∧ _ ∧ _ ∧ _ ∧ _ from ⟨rfl, ha, hb, hc, hd, hs⟩)
    have A2 := hid hA
    have A12 := hid (A1.out.below hbl A1.out.lt)
    have B2 := hid (B1.out.trans (hbl.mono B1.out.size))
    obtain ⟨_, p1, p2, p3, p4, p5⟩ := P1.out
    obtain ⟨_, q1, q2, q3, q4, q5⟩ := P2.out
    have i1 := I1.out g1 a b c d p1 p2 p3 p4 p5 w2 A12.out
    have s1 := fun W (h : Arr W g1 3 (four a b c d)) => S1.out g1 a b c d p1 p2 p3 p4 (by omega) W h
    have i2 := fun W (h : Arr W g2 3 (four a2 b2 c2 d2)) => I2.out g2 a2 b2 c2 d2 q1 q2 q3 q4 q5 W h
    have s2 := fun W (h : Arr W g2 3 (four a2 b2 c2 d2)) => S2.out g2 a2 b2 c2 d2 q1 q2 q3 q4 (by omega) W h
    clear ha hb hc hd hs hA hbl p1 p2 p3 p4 p5 q1 q2 q3 q4 q5 I1 I2 S1 S2
    generalize restVal _ [a, b, c, d] _ _ = v1 at *
    generalize restVal _ [a2, b2, c2, d2] _ _ = v2 at *
    have S1 := hid s1
    have I2 := hid i2
    have S2 := hid s2
    clear s1 i2 s2
    go_wp2_with fail
    refine i1.mono ?_
    clear i1
    rintro e w3 ⟨rfl, hbl⟩
    have A13 := hid (A12.out.below hbl A12.out.lt)
    have A23 := hid (A2.out.below hbl A2.out.lt)
    have B3 := hid (B2.out.trans (hbl.mono B2.out.size))
    have s1 := S1.out w3 A13.out
    clear hbl
    go_wp2_with fail
    refine s1.mono ?_
    clear s1
    rintro e w4 ⟨rfl, rfl⟩
    have i2 := I2.out w3 A23.out
    go_wp2_with fail
    refine i2.mono ?_
    clear i2
    rintro e w5 ⟨rfl, hbl⟩
    have A24 := hid (A23.out.below hbl A23.out.lt)
    have B4 := hid (B3.out.trans (hbl.mono B3.out.size))
    have s2 := S2.out w5 A24.out
    clear hbl
    go_wp2_with fail
    refine s2.mono ?_
    clear s2
    rintro e w6 ⟨rfl, rfl⟩
    go_wp2_with fail
    go_ret
    exact ⟨rfl, B4.out⟩

set_option maxRecDepth 20000 in
set_option maxHeartbeats 4000000 in
theorem rvInner10 (A : Option Addr) (n cap : Nat) (B : Nat → Nat) (z : Int) (hz0 : 0 ≤ z) (hz1 : z ≤ 255) (hz5 : z % 5 = 1) (hz4 : z % 4 = 0) (w : World) (hR : RdB w A n B) (hn : n ≤ 2147483647) :
    Calls Try.prog 5 #[.slice A n cap, .int .u8 z, .bool true] w fun e w' => e = .returned (.bool true) ∧ Below w.heap.size w w' := by
  have f1 : ∀ W, RdB W A n B → Calls Try.prog 13 #[.slice A n cap, .int .i64 5, .int .i64 2] W (FourAt 5 2 W) := fun W h => (rvFour A n cap B 5 2 W h hn (by decide) (by decide) (by decide)).mono fun _ _ h => h.at_
  have f2 : ∀ W, RdB W A n B → Calls Try.prog 13 #[.slice A n cap, .int .i64 10, .int .i64 7] W (FourAt 10 7 W) := fun W h => (rvFour A n cap B 10 7 W h hn (by decide) (by decide) (by decide)).mono fun _ _ h => h.at_
  have HB := hid fun (m : Nat) => below_drewN (Below.refl w.heap.size w) m
  have HR := hid hR
  have F1 := hid f1
  have F2 := hid f2
  have I1 := hid (fun g a b c d ha hb hc hd hs W hA => implRSS g a b c d 2 5 true (by decide) ha hb hc hd hs (by decide) (by decide) W hA)
  have S1 := hid (fun g a b c d ha hb hc hd h W hA => restSpec g a b c d 2 true ha hb hc hd h (by decide) W hA)
  have I2 := hid (fun g a b c d ha hb hc hd hs W hA => implRSS g a b c d 7 10 false (by decide) ha hb hc hd hs (by decide) (by decide) W hA)
  have S2 := hid (fun g a b c d ha hb hc hd h W hA => restSpec g a b c d 7 false ha hb hc hd h (by decide) W hA)
  clear f1 f2 hR
  have ix5 : ∀ w, (Instr.index 32 (.agg #[.int .i64 8, .int .i64 6, .int .i64 4, .int .i64 3, .int .i64 1]) (.int .u8 1)).run Try.prog w = .ok (.int .i64 6) w := fun _ => by kernel_rfl
  have ix4 : ∀ w, (Instr.index 33 (.agg #[.int .i64 2, .int .i64 4, .int .i64 6, .int .i64 8]) (.int .u8 0)).run Try.prog w = .ok (.int .i64 2) w := fun _ => by kernel_rfl
  go_enter Try.func5, Try.ntmps5
  go_wp2_with fail
  go_quiet (fail)
  go_wp2_with fail
  go_quiet (fail)
  go_wp2_with fail
  all_goals
    generalize hwd : w.drewN _ = W0
    have B0 := hid (show Below w.heap.size w W0 from by rw [← hwd]; exact HB.out _)
    have R0 : RdB W0 A n B := HR.out.below B0.out
    have HR0 := hid R0
    clear hwd
    refine (F1.out _ R0).mono ?_
    clear R0
    rintro e w1 ⟨g1, a, b, c, d, rfl, hA, ha, hb, hc, hd, hs, hbl⟩
    have P1 := hid (show 1 = 1 ∧ _ ∧ _ ∧ _ ∧ _ ∧ _ from ⟨rfl, ha, hb, hc, hd, hs⟩)
    have A1 := hid hA
    have R1 := hid (HR0.out.below hbl)
    have B1 := hid (B0.out.trans (hbl.mono B0.out.size))
    have f2 := F2.out w1 R1.out
    clear ha hb hc hd hs hA hbl
    go_wp2_with fail
    refine f2.mono ?_
    clear f2
    rintro e w2 ⟨g2, a2, b2, c2, d2, rfl, hA, ha, hb, hc, hd, hs, hbl⟩
    have P2 := hid (show 1 = 1 ∧ _ ∧ _ ∧ _ ∧ _ ∧ _ from ⟨rfl, ha, hb, hc, hd, hs⟩)
    have A2 := hid hA
    have A12 := hid (A1.out.below hbl A1.out.lt)
    have B2 := hid (B1.out.trans (hbl.mono B1.out.size))
    obtain ⟨_, p1, p2, p3, p4, p5⟩ := P1.out
    obtain ⟨_, q1, q2, q3, q4, q5⟩ := P2.out
    have i1 := I1.out g1 a b c d p1 p2 p3 p4 p5 w2 A12.out
    have s1 := fun W (h : Arr W g1 3 (four a b c d)) => S1.out g1 a b c d p1 p2 p3 p4 (by omega) W h
    have i2 := fun W (h : Arr W g2 3 (four a2 b2 c2 d2)) => I2.out g2 a2 b2 c2 d2 q1 q2 q3 q4 q5 W h
    have s2 := fun W (h : Arr W g2 3 (four a2 b2 c2 d2)) => S2.out g2 a2 b2 c2 d2 q1 q2 q3 q4 (by omega) W h
    clear ha hb hc hd hs hA hbl p1 p2 p3 p4 p5 q1 q2 q3 q4 q5 I1 I2 S1 S2
    generalize restVal _ [a, b, c, d] _ _ = v1 at *
    generalize restVal _ [a2, b2, c2, d2] _ _ = v2 at *
    have S1 := hid s1
    have I2 := hid i2
    have S2 := hid s2
    clear s1 i2 s2
    go_wp2_with fail
    refine i1.mono ?_
    clear i1
    rintro e w3 ⟨rfl, hbl⟩
    have A13 := hid (A12.out.below hbl A12.out.lt)
    have A23 := hid (A2.out.below hbl A2.out.lt)
    have B3 := hid (B2.out.trans (hbl.mono B2.out.size))
    have s1 := S1.out w3 A13.out
    clear hbl
    go_wp2_with fail
    refine s1.mono ?_
    clear s1
    rintro e w4 ⟨rfl, rfl⟩
    have i2 := I2.out w3 A23.out
    go_wp2_with fail
    refine i2.mono ?_
    clear i2
    rintro e w5 ⟨rfl, hbl⟩
    have A24 := hid (A23.out.below hbl A23.out.lt)
    have B4 := hid (B3.out.trans (hbl.mono B3.out.size))
    have s2 := S2.out w5 A24.out
    clear hbl
    go_wp2_with fail
    refine s2.mono ?_
    clear s2
    rintro e w6 ⟨rfl, rfl⟩
    go_wp2_with fail
    go_ret
    exact ⟨rfl, B4.out⟩

set_option maxRecDepth 20000 in
set_option maxHeartbeats 4000000 in
theorem rvInner11 (A : Option Addr) (n cap : Nat) (B : Nat → Nat) (z : Int) (hz0 : 0 ≤ z) (hz1 : z ≤ 255) (hz5 : z % 5 = 1) (hz4 : z % 4 = 1) (w : World) (hR : RdB w A n B) (hn : n ≤ 2147483647) :
    Calls Try.prog 5 #[.slice A n cap, .int .u8 z, .bool true] w fun e w' => e = .returned (.bool true) ∧ Below w.heap.size w w' := by
  have f1 : ∀ W, RdB W A n B → Calls Try.prog 13 #[.slice A n cap, .int .i64 7, .int .i64 4] W (FourAt 7 4 W) := fun W h => (rvFour A n cap B 7 4 W h hn (by decide) (by decide) (by decide)).mono fun _ _ h => h.at_
  have f2 : ∀ W, RdB W A n B → Calls Try.prog 13 #[.slice A n cap, .int .i64 8, .int .i64 5] W (FourAt 8 5 W) := fun W h => (rvFour A n cap B 8 5 W h hn (by decide) (by decide) (by decide)).mono fun _ _ h => h.at_
  have HB := hid fun (m : Nat) => below_drewN (Below.refl w.heap.size w) m
  have HR := hid hR
  have F1 := hid f1
  have F2 := hid f2
  have I1 := hid (fun g a b c d ha hb hc hd hs W hA => implRSS g a b c d 4 7 true (by decide) ha hb hc hd hs (by decide) (by decide) W hA)
  have S1 := hid (fun g a b c d ha hb hc hd h W hA => restSpec g a b c d 4 true ha hb hc hd h (by decide) W hA)
  have I2 := hid (fun g a b c d ha hb hc hd hs W hA => implRSS g a b c d 5 8 false (by decide) ha hb hc hd hs (by decide) (by decide) W hA)
  have S2 := hid (fun g a b c d ha hb hc hd h W hA => restSpec g a b c d 5 false ha hb hc hd h (by decide) W hA)
  clear f1 f2 hR
  have ix5 : ∀ w, (Instr.index 32 (.agg #[.int .i64 8, .int .i64 6, .int .i64 4, .int .i64 3, .int .i64 1]) (.int .u8 1)).run Try.prog w = .ok (.int .i64 6) w := fun _ => by kernel_rfl
  have ix4 : ∀ w, (Instr.index 33 (.agg #[.int .i64 2, .int .i64 4, .int .i64 6, .int .i64 8]) (.int .u8 1)).run Try.prog w = .ok (.int .i64 4) w := fun _ => by kernel_rfl
  go_enter Try.func5, Try.ntmps5
  go_wp2_with fail
  go_quiet (fail)
  go_wp2_with fail
  go_quiet (fail)
  go_wp2_with fail
  all_goals
    generalize hwd : w.drewN _ = W0
    have B0 := hid (show Below w.heap.size w W0 from by rw [← hwd]; exact HB.out _)
    have R0 : RdB W0 A n B := HR.out.below B0.out
    have HR0 := hid R0
    clear hwd
    refine (F1.out _ R0).mono ?_
    clear R0
    rintro e w1 ⟨g1, a, b, c, d, rfl, hA, ha, hb, hc, hd, hs, hbl⟩
    have P1 := hid (show 1 = 1 ∧ _ ∧ _ ∧ _ ∧ _ ∧ _ from ⟨rfl, ha, hb, hc, hd, hs⟩)
    have A1 := hid hA
    have R1 := hid (HR0.out.below hbl)
    have B1 := hid (B0.out.trans (hbl.mono B0.out.size))
    have f2 := F2.out w1 R1.out
    clear ha hb hc hd hs hA hbl
    go_wp2_with fail
    refine f2.mono ?_
    clear f2
    rintro e w2 ⟨g2, a2, b2, c2, d2, rfl, hA, ha, hb, hc, hd, hs, hbl⟩
    have P2 := hid (show 1 = 1 ∧ _ ∧ _ ∧ _ ∧ _ ∧ _ from ⟨rfl, ha, hb, hc, hd, hs⟩)
    have A2 := hid hA
    have A12 := hid (A1.out.below hbl A1.out.lt)
    have B2 := hid (B1.out.trans (hbl.mono B1.out.size))
    obtain ⟨_, p1, p2, p3, p4, p5⟩ := P1.out
    obtain ⟨_, q1, q2, q3, q4, q5⟩ := P2.out
    have i1 := I1.out g1 a b c d p1 p2 p3 p4 p5 w2 A12.out
    have s1 := fun W (h : Arr W g1 3 (four a b c d)) => S1.out g1 a b c d p1 p2 p3 p4 (by omega) W h
    have i2 := fun W (h : Arr W g2 3 (four a2 b2 c2 d2)) => I2.out g2 a2 b2 c2 d2 q1 q2 q3 q4 q5 W h
    have s2 := fun W (h : Arr W g2 3 (four a2 b2 c2 d2)) => S2.out g2 a2 b2 c2 d2 q1 q2 q3 q4 (by omega) W h
    clear ha hb hc hd hs hA hbl p1 p2 p3 p4 p5 q1 q2 q3 q4 q5 I1 I2 S1 S2
    generalize restVal _ [a, b, c, d] _ _ = v1 at *
    generalize restVal _ [a2, b2, c2, d2] _ _ = v2 at *
    have S1 := hid s1
    have I2 := hid i2
    have S2 := hid s2
    clear s1 i2 s2
    go_wp2_with fail
    refine i1.mono ?_
    clear i1
    rintro e w3 ⟨rfl, hbl⟩
    have A13 := hid (A12.out.below hbl A12.out.lt)
    have A23 := hid (A2.out.below hbl A2.out.lt)
    have B3 := hid (B2.out.trans (hbl.mono B2.out.size))
    have s1 := S1.out w3 A13.out
    clear hbl
    go_wp2_with fail
    refine s1.mono ?_
    clear s1
    rintro e w4 ⟨rfl, rfl⟩
    have i2 := I2.out w3 A23.out
    go_wp2_with fail
    refine i2.mono ?_
    clear i2
    rintro e w5 ⟨rfl, hbl⟩
    have A24 := hid (A23.out.below hbl A23.out.lt)
    have B4 := hid (B3.out.trans (hbl.mono B3.out.size))
    have s2 := S2.out w5 A24.out
    clear hbl
    go_wp2_with fail
    refine s2.mono ?_
    clear s2
    rintro e w6 ⟨rfl, rfl⟩
    go_wp2_with fail
    go_ret
    exact ⟨rfl, B4.out⟩

set_option maxRecDepth 20000 in
set_option maxHeartbeats 4000000 in
theorem rvInner12 (A : Option Addr) (n cap : Nat) (B : Nat → Nat) (z : Int) (hz0 : 0 ≤ z) (hz1 : z ≤ 255) (hz5 : z % 5 = 1) (hz4 : z % 4 = 2) (w : World) (hR : RdB w A n B) (hn : n ≤ 2147483647) :
    Calls Try.prog 5 #[.slice A n cap, .int .u8 z, .bool true] w fun e w' => e = .returned (.bool true) ∧ Below w.heap.size w w' := by
  have f1 : ∀ W, RdB W A n B → Calls Try.prog 13 #[.slice A n cap, .int .i64 9, .int .i64 6] W (FourAt 9 6 W) := fun W h => (rvFour A n cap B 9 6 W h hn (by decide) (by decide) (by decide)).mono fun _ _ h => h.at_
  have f2 : ∀ W, RdB W A n B → Calls Try.prog 13 #[.slice A n cap, .int .i64 6, .int .i64 3] W (FourAt 6 3 W) := fun W h => (rvFour A n cap B 6 3 W h hn (by decide) (by decide) (by decide)).mono fun _ _ h => h.at_
  have HB := hid fun (m : Nat) => below_drewN (Below.refl w.heap.size w) m
  have HR := hid hR
  have F1 := hid f1
  have F2 := hid f2
  have I1 := hid (fun g a b c d ha hb hc hd hs W hA => implRSS g a b c d 6 9 true (by decide) ha hb hc hd hs (by decide) (by decide) W hA)
  have S1 := hid (fun g a b c d ha hb hc hd h W hA => restSpec g a b c d 6 true ha hb hc hd h (by decide) W hA)
  have I2 := hid (fun g a b c d ha hb hc hd hs W hA => implRSS g a b c d 3 6 false (by decide) ha hb hc hd hs (by decide) (by decide) W hA)
  have S2 := hid (fun g a b c d ha hb hc hd h W hA => restSpec g a b c d 3 false ha hb hc hd h (by decide) W hA)
  clear f1 f2 hR
  have ix5 : ∀ w, (Instr.index 32 (.agg #[.int .i64 8, .int .i64 6, .int .i64 4, .int .i64 3, .int .i64 1]) (.int .u8 1)).run Try.prog w = .ok (.int .i64 6) w := fun _ => by kernel_rfl
  have ix4 : ∀ w, (Instr.index 33 (.agg #[.int .i64 2, .int .i64 4, .int .i64 6, .int .i64 8]) (.int .u8 2)).run Try.prog w = .ok (.int .i64 6) w := fun _ => by kernel_rfl
  go_enter Try.func5, Try.ntmps5
  go_wp2_with fail
  go_quiet (fail)
  go_wp2_with fail
  go_quiet (fail)
  go_wp2_with fail
  all_goals
    generalize hwd : w.drewN _ = W0
    have B0 := hid (show Below w.heap.size w W0 from by rw [← hwd]; exact HB.out _)
    have R0 : RdB W0 A n B := HR.out.below B0.out
    have HR0 := hid R0
    clear hwd
    refine (F1.out _ R0).mono ?_
    clear R0
    rintro e w1 ⟨g1, a, b, c, d, rfl, hA, ha, hb, hc, hd, hs, hbl⟩
    have P1 := hid (show 1 = 1 ∧ _ ∧ _ ∧ _ ∧ _ ∧ _ from ⟨rfl, ha, hb, hc, hd, hs⟩)
    have A1 := hid hA
    have R1 := hid (HR0.out.below hbl)
    have B1 := hid (B0.out.trans (hbl.mono B0.out.size))
    have f2 := F2.out w1 R1.out
    clear ha hb hc hd hs hA hbl
    go_wp2_with fail
    refine f2.mono ?_
    clear f2
    rintro e w2 ⟨g2, a2, b2, c2, d2, rfl, hA, ha, hb, hc, hd, hs, hbl⟩
    have P2 := hid (show 1 = 1 ∧ _ ∧ _ ∧ _ ∧ _ ∧ _ from ⟨rfl, ha, hb, hc, hd, hs⟩)
    have A2 := hid hA
    have A12 := hid (A1.out.below hbl A1.out.lt)
    have B2 := hid (B1.out.trans (hbl.mono B1.out.size))
    obtain ⟨_, p1, p2, p3, p4, p5⟩ := P1.out
    obtain ⟨_, q1, q2, q3, q4, q5⟩ := P2.out
    have i1 := I1.out g1 a b c d p1 p2 p3 p4 p5 w2 A12.out
    have s1 := fun W (h : Arr W g1 3 (four a b c d)) => S1.out g1 a b c d p1 p2 p3 p4 (by omega) W h
    have i2 := fun W (h : Arr W g2 3 (four a2 b2 c2 d2)) => I2.out g2 a2 b2 c2 d2 q1 q2 q3 q4 q5 W h
    have s2 := fun W (h : Arr W g2 3 (four a2 b2 c2 d2)) => S2.out g2 a2 b2 c2 d2 q1 q2 q3 q4 (by omega) W h
    clear ha hb hc hd hs hA hbl p1 p2 p3 p4 p5 q1 q2 q3 q4 q5 I1 I2 S1 S2
    generalize restVal _ [a, b, c, d] _ _ = v1 at *
    generalize restVal _ [a2, b2, c2, d2] _ _ = v2 at *
    have S1 := hid s1
    have I2 := hid i2
    have S2 := hid s2
    clear s1 i2 s2
    go_wp2_with fail
    refine i1.mono ?_
    clear i1
    rintro e w3 ⟨rfl, hbl⟩
    have A13 := hid (A12.out.below hbl A12.out.lt)
    have A23 := hid (A2.out.below hbl A2.out.lt)
    have B3 := hid (B2.out.trans (hbl.mono B2.out.size))
    have s1 := S1.out w3 A13.out
    clear hbl
    go_wp2_with fail
    refine s1.mono ?_
    clear s1
    rintro e w4 ⟨rfl, rfl⟩
    have i2 := I2.out w3 A23.out
    go_wp2_with fail
    refine i2.mono ?_
    clear i2
    rintro e w5 ⟨rfl, hbl⟩
    have A24 := hid (A23.out.below hbl A23.out.lt)
    have B4 := hid (B3.out.trans (hbl.mono B3.out.size))
    have s2 := S2.out w5 A24.out
    clear hbl
    go_wp2_with fail
    refine s2.mono ?_
    clear s2
    rintro e w6 ⟨rfl, rfl⟩
    go_wp2_with fail
    go_ret
    exact ⟨rfl, B4.out⟩

set_option maxRecDepth 20000 in
set_option maxHeartbeats 4000000 in
theorem rvInner13 (A : Option Addr) (n cap : Nat) (B : Nat → Nat) (z : Int) (hz0 : 0 ≤ z) (hz1 : z ≤ 255) (hz5 : z % 5 = 1) (hz4 : z % 4 = 3) (w : World) (hR : RdB w A n B) (hn : n ≤ 2147483647) :
    Calls Try.prog 5 #[.slice A n cap, .int .u8 z, .bool true] w fun e w' => e = .returned (.bool true) ∧ Below w.heap.size w w' := by
  have f1 : ∀ W, RdB W A n B → Calls Try.prog 13 #[.slice A n cap, .int .i64 11, .int .i64 8] W (FourAt 11 8 W) := fun W h => (rvFour A n cap B 11 8 W h hn (by decide) (by decide) (by decide)).mono fun _ _ h => h.at_
  have f2 : ∀ W, RdB W A n B → Calls Try.prog 13 #[.slice A n cap, .int .i64 4, .int .i64 1] W (FourAt 4 1 W) := fun W h => (rvFour A n cap B 4 1 W h hn (by decide) (by decide) (by decide)).mono fun _ _ h => h.at_
  have HB := hid fun (m : Nat) => below_drewN (Below.refl w.heap.size w) m
  have HR := hid hR
  have F1 := hid f1
  have F2 := hid f2
  have I1 := hid (fun g a b c d ha hb hc hd hs W hA => implRSS g a b c d 8 11 true (by decide) ha hb hc hd hs (by decide) (by decide) W hA)
  have S1 := hid (fun g a b c d ha hb hc hd h W hA => restSpec g a b c d 8 true ha hb hc hd h (by decide) W hA)
  have I2 := hid (fun g a b c d ha hb hc hd hs W hA => implRSS g a b c d 1 4 false (by decide) ha hb hc hd hs (by decide) (by decide) W hA)
  have S2 := hid (fun g a b c d ha hb hc hd h W hA => restSpec g a b c d 1 false ha hb hc hd h (by decide) W hA)
  clear f1 f2 hR
  have ix5 : ∀ w, (Instr.index 32 (.agg #[.int .i64 8, .int .i64 6, .int .i64 4, .int .i64 3, .int .i64 1]) (.int .u8 1)).run Try.prog w = .ok (.int .i64 6) w := fun _ => by kernel_rfl
  have ix4 : ∀ w, (Instr.index 33 (.agg #[.int .i64 2, .int .i64 4, .int .i64 6, .int .i64 8]) (.int .u8 3)).run Try.prog w = .ok (.int .i64 8) w := fun _ => by kernel_rfl
  go_enter Try.func5, Try.ntmps5
  go_wp2_with fail
  go_quiet (fail)
  go_wp2_with fail
  go_quiet (fail)
  go_wp2_with fail
  all_goals
    generalize hwd : w.drewN _ = W0
    have B0 := hid (show Below w.heap.size w W0 from by rw [← hwd]; exact HB.out _)
    have R0 : RdB W0 A n B := HR.out.below B0.out
    have HR0 := hid R0
    clear hwd
    refine (F1.out _ R0).mono ?_
    clear R0
    rintro e w1 ⟨g1, a, b, c, d, rfl, hA, ha, hb, hc, hd, hs, hbl⟩
    have P1 := hid (show 1 = 1 ∧ _ ∧ _ ∧ _ ∧ _ ∧ _ from ⟨rfl, ha, hb, hc, hd, hs⟩)
    have A1 := hid hA
    have R1 := hid (HR0.out.below hbl)
    have B1 := hid (B0.out.trans (hbl.mono B0.out.size))
    have f2 := F2.out w1 R1.out
    clear ha hb hc hd hs hA hbl
    go_wp2_with fail
    refine f2.mono ?_
    clear f2
    rintro e w2 ⟨g2, a2, b2, c2, d2, rfl, hA, ha, hb, hc, hd, hs, hbl⟩
    have P2 := hid (show 1 = 1 ∧ _ ∧ _ ∧ _ ∧ _ ∧ _ from ⟨rfl, ha, hb, hc, hd, hs⟩)
    have A2 := hid hA
    have A12 := hid (A1.out.below hbl A1.out.lt)
    have B2 := hid (B1.out.trans (hbl.mono B1.out.size))
    obtain ⟨_, p1, p2, p3, p4, p5⟩ := P1.out
    obtain ⟨_, q1, q2, q3, q4, q5⟩ := P2.out
    have i1 := I1.out g1 a b c d p1 p2 p3 p4 p5 w2 A12.out
    have s1 := fun W (h : Arr W g1 3 (four a b c d)) => S1.out g1 a b c d p1 p2 p3 p4 (by omega) W h
    have i2 := fun W (h : Arr W g2 3 (four a2 b2 c2 d2)) => I2.out g2 a2 b2 c2 d2 q1 q2 q3 q4 q5 W h
    have s2 := fun W (h : Arr W g2 3 (four a2 b2 c2 d2)) => S2.out g2 a2 b2 c2 d2 q1 q2 q3 q4 (by omega) W h
    clear ha hb hc hd hs hA hbl p1 p2 p3 p4 p5 q1 q2 q3 q4 q5 I1 I2 S1 S2
    generalize restVal _ [a, b, c, d] _ _ = v1 at *
    generalize restVal _ [a2, b2, c2, d2] _ _ = v2 at *
    have S1 := hid s1
    have I2 := hid i2
    have S2 := hid s2
    clear s1 i2 s2
    go_wp2_with fail
    refine i1.mono ?_
    clear i1
    rintro e w3 ⟨rfl, hbl⟩
    have A13 := hid (A12.out.below hbl A12.out.lt)
    have A23 := hid (A2.out.below hbl A2.out.lt)
    have B3 := hid (B2.out.trans (hbl.mono B2.out.size))
    have s1 := S1.out w3 A13.out
    clear hbl
    go_wp2_with fail
    refine s1.mono ?_
    clear s1
    rintro e w4 ⟨rfl, rfl⟩
    have i2 := I2.out w3 A23.out
    go_wp2_with fail
    refine i2.mono ?_
    clear i2
    rintro e w5 ⟨rfl, hbl⟩
    have A24 := hid (A23.out.below hbl A23.out.lt)
    have B4 := hid (B3.out.trans (hbl.mono B3.out.size))
    have s2 := S2.out w5 A24.out
    clear hbl
    go_wp2_with fail
    refine s2.mono ?_
    clear s2
    rintro e w6 ⟨rfl, rfl⟩
    go_wp2_with fail
    go_ret
    exact ⟨rfl, B4.out⟩

set_option maxRecDepth 20000 in
set_option maxHeartbeats 4000000 in
theorem rvInner20 (A : Option Addr) (n cap : Nat) (B : Nat → Nat) (z : Int) (hz0 : 0 ≤ z) (hz1 : z ≤ 255) (hz5 : z % 5 = 2) (hz4 : z % 4 = 0) (w : World) (hR : RdB w A n B) (hn : n ≤ 2147483647) :
    Calls Try.prog 5 #[.slice A n cap, .int .u8 z, .bool true] w fun e w' => e = .returned (.bool true) ∧ Below w.heap.size w w' := by
  have f1 : ∀ W, RdB W A n B → Calls Try.prog 13 #[.slice A n cap, .int .i64 5, .int .i64 2] W (FourAt 5 2 W) := fun W h => (rvFour A n cap B 5 2 W h hn (by decide) (by decide) (by decide)).mono fun _ _ h => h.at_
  have f2 : ∀ W, RdB W A n B → Calls Try.prog 13 #[.slice A n cap, .int .i64 10, .int .i64 7] W (FourAt 10 7 W) := fun W h => (rvFour A n cap B 10 7 W h hn (by decide) (by decide) (by decide)).mono fun _ _ h => h.at_
  have HB := hid fun (m : Nat) => below_drewN (Below.refl w.heap.size w) m
  have HR := hid hR
  have F1 := hid f1
  have F2 := hid f2
  have I1 := hid (fun g a b c d ha hb hc hd hs W hA => implRSS g a b c d 2 5 true (by decide) ha hb hc hd hs (by decide) (by decide) W hA)
  have S1 := hid (fun g a b c d ha hb hc hd h W hA => restSpec g a b c d 2 true ha hb hc hd h (by decide) W hA)
  have I2 := hid (fun g a b c d ha hb hc hd hs W hA => implRSS g a b c d 7 10 false (by decide) ha hb hc hd hs (by decide) (by decide) W hA)
  have S2 := hid (fun g a b c d ha hb hc hd h W hA => restSpec g a b c d 7 false ha hb hc hd h (by decide) W hA)
  clear f1 f2 hR
  have ix5 : ∀ w, (Instr.index 32 (.agg #[.int .i64 8, .int .i64 6, .int .i64 4, .int .i64 3, .int .i64 1]) (.int .u8 2)).run Try.prog w = .ok (.int .i64 4) w := fun _ => by kernel_rfl
  have ix4 : ∀ w, (Instr.index 33 (.agg #[.int .i64 2, .int .i64 4, .int .i64 6, .int .i64 8]) (.int .u8 0)).run Try.prog w = .ok (.int .i64 2) w := fun _ => by kernel_rfl
  go_enter Try.func5, Try.ntmps5
  go_wp2_with fail
  go_quiet (fail)
  go_wp2_with fail
  go_quiet (fail)
  go_wp2_with fail
  all_goals
    generalize hwd : w.drewN _ = W0
    have B0 := hid (show Below w.heap.size w W0 from by rw [← hwd]; exact HB.out _)
    have R0 : RdB W0 A n B := HR.out.below B0.out
    have HR0 := hid R0
    clear hwd
    refine (F1.out _ R0).mono ?_
    clear R0
    rintro e w1 ⟨g1, a, b, c, d, rfl, hA, ha, hb, hc, hd, hs, hbl⟩
    have P1 := hid (show 1 = 1 ∧ _ ∧ _ ∧ _ ∧ _ ∧ _ from ⟨rfl, ha, hb, hc, hd, hs⟩)
    have A1 := hid hA
    have R1 := hid (HR0.out.below hbl)
    have B1 := hid (B0.out.trans (hbl.mono B0.out.size))
    have f2 := F2.out w1 R1.out
    clear ha hb hc hd hs hA hbl
    go_wp2_with fail
    refine f2.mono ?_
    clear f2
    rintro e w2 ⟨g2, a2, b2, c2, d2, rfl, hA, ha, hb, hc, hd, hs, hbl⟩
    have P2 := hid (show 1 = 1 ∧ _ ∧ _ ∧ _ ∧ _ ∧ _ from ⟨rfl, ha, hb, hc, hd, hs⟩)
    have A2 := hid hA
    have A12 := hid (A1.out.below hbl A1.out.lt)
    have B2 := hid (B1.out.trans (hbl.mono B1.out.size))
    obtain ⟨_, p1, p2, p3, p4, p5⟩ := P1.out
    obtain ⟨_, q1, q2, q3, q4, q5⟩ := P2.out
    have i1 := I1.out g1 a b c d p1 p2 p3 p4 p5 w2 A12.out
    have s1 := fun W (h : Arr W g1 3 (four a b c d)) => S1.out g1 a b c d p1 p2 p3 p4 (by omega) W h
    have i2 := fun W (h : Arr W g2 3 (four a2 b2 c2 d2)) => I2.out g2 a2 b2 c2 d2 q1 q2 q3 q4 q5 W h
    have s2 := fun W (h : Arr W g2 3 (four a2 b2 c2 d2)) => S2.out g2 a2 b2 c2 d2 q1 q2 q3 q4 (by omega) W h
    clear ha hb hc hd hs hA hbl p1 p2 p3 p4 p5 q1 q2 q3 q4 q5 I1 I2 S1 S2
    generalize restVal _ [a, b, c, d] _ _ = v1 at *
    generalize restVal _ [a2, b2, c2, d2] _ _ = v2 at *
    have S1 := hid s1
    have I2 := hid i2
    have S2 := hid s2
    clear s1 i2 s2
    go_wp2_with fail
    refine i1.mono ?_
    clear i1
    rintro e w3 ⟨rfl, hbl⟩
    have A13 := hid (A12.out.below hbl A12.out.lt)
    have A23 := hid (A2.out.below hbl A2.out.lt)
    have B3 := hid (B2.out.trans (hbl.mono B2.out.size))
    have s1 := S1.out w3 A13.out
    clear hbl
    go_wp2_with fail
    refine s1.mono ?_
    clear s1
    rintro e w4 ⟨rfl, rfl⟩
    have i2 := I2.out w3 A23.out
    go_wp2_with fail
    refine i2.mono ?_
    clear i2
    rintro e w5 ⟨rfl, hbl⟩
    have A24 := hid (A23.out.below hbl A23.out.lt)
    have B4 := hid (B3.out.trans (hbl.mono B3.out.size))
    have s2 := S2.out w5 A24.out
    clear hbl
    go_wp2_with fail
    refine s2.mono ?_
    clear s2
    rintro e w6 ⟨rfl, rfl⟩
    go_wp2_with fail
    go_ret
    exact ⟨rfl, B4.out⟩

set_option maxRecDepth 20000 in
set_option maxHeartbeats 4000000 in
theorem rvInner21 (A : Option Addr) (n cap : Nat) (B : Nat → Nat) (z : Int) (hz0 : 0 ≤ z) (hz1 : z ≤ 255) (hz5 : z % 5 = 2) (hz4 : z % 4 = 1) (w : World) (hR : RdB w A n B) (hn : n ≤ 2147483647) :
    Calls Try.prog 5 #[.slice A n cap, .int .u8 z, .bool true] w fun e w' => e = .returned (.bool true) ∧ Below w.heap.size w w' := by
  have f1 : ∀ W, RdB W A n B → Calls Try.prog 13 #[.slice A n cap, .int .i64 7, .int .i64 4] W (FourAt 7 4 W) := fun W h => (rvFour A n cap B 7 4 W h hn (by decide) (by decide) (by decide)).mono fun _ _ h => h.at_
  have f2 : ∀ W, RdB W A n B → Calls Try.prog 13 #[.slice A n cap, .int .i64 8, .int .i64 5] W (FourAt 8 5 W) := fun W h => (rvFour A n cap B 8 5 W h hn (by decide) (by decide) (by decide)).mono fun _ _ h => h.at_
  have HB := hid fun (m : Nat) => below_drewN (Below.refl w.heap.size w) m
  have HR := hid hR
  have F1 := hid f1
  have F2 := hid f2
  have I1 := hid (fun g a b c d ha hb hc hd hs W hA => implRSS g a b c d 4 7 true (by decide) ha hb hc hd hs (by decide) (by decide) W hA)
  have S1 := hid (fun g a b c d ha hb hc hd h W hA => restSpec g a b c d 4 true ha hb hc hd h (by decide) W hA)
  have I2 := hid (fun g a b c d ha hb hc hd hs W hA => implRSS g a b c d 5 8 false (by decide) ha hb hc hd hs (by decide) (by decide) W hA)
  have S2 := hid (fun g a b c d ha hb hc hd h W hA => restSpec g a b c d 5 false ha hb hc hd h (by decide) W hA)
  clear f1 f2 hR
  have ix5 : ∀ w, (Instr.index 32 (.agg #[.int .i64 8, .int .i64 6, .int .i64 4, .int .i64 3, .int .i64 1]) (.int .u8 2)).run Try.prog w = .ok (.int .i64 4) w := fun _ => by kernel_rfl
  have ix4 : ∀ w, (Instr.index 33 (.agg #[.int .i64 2, .int .i64 4, .int .i64 6, .int .i64 8]) (.int .u8 1)).run Try.prog w = .ok (.int .i64 4) w := fun _ => by kernel_rfl
  go_enter Try.func5, Try.ntmps5
  go_wp2_with fail
  go_quiet (fail)
  go_wp2_with fail
  go_quiet (fail)
  go_wp2_with fail
  all_goals
    generalize hwd : w.drewN _ = W0
    have B0 := hid (show Below w.heap.size w W0 from by rw [← hwd]; exact HB.out _)
    have R0 : RdB W0 A n B := HR.out.below B0.out
    have HR0 := hid R0
    clear hwd
    refine (F1.out _ R0).mono ?_
    clear R0
    rintro e w1 ⟨g1, a, b, c, d, rfl, hA, ha, hb, hc, hd, hs, hbl⟩
    have P1 := hid (show 1 = 1 ∧ _ ∧ _ ∧ _ ∧ _ ∧ _ from ⟨rfl, ha, hb, hc, hd, hs⟩)
    have A1 := hid hA
    have R1 := hid (HR0.out.below hbl)
    have B1 := hid (B0.out.trans (hbl.mono B0.out.size))
    have f2 := F2.out w1 R1.out
    clear ha hb hc hd hs hA hbl
    go_wp2_with fail
    refine f2.mono ?_
    clear f2
    rintro e w2 ⟨g2, a2, b2, c2, d2, rfl, hA, ha, hb, hc, hd, hs, hbl⟩
    have P2 := hid (show 1 = 1 ∧ _ ∧ _ ∧ _ ∧ _ ∧ _ from ⟨rfl, ha, hb, hc, hd, hs⟩)
    have A2 := hid hA
    have A12 := hid (A1.out.below hbl A1.out.lt)
    have B2 := hid (B1.out.trans (hbl.mono B1.out.size))
    obtain ⟨_, p1, p2, p3, p4, p5⟩ := P1.out
    obtain ⟨_, q1, q2, q3, q4, q5⟩ := P2.out
    have i1 := I1.out g1 a b c d p1 p2 p3 p4 p5 w2 A12.out
    have s1 := fun W (h : Arr W g1 3 (four a b c d)) => S1.out g1 a b c d p1 p2 p3 p4 (by omega) W h
    have i2 := fun W (h : Arr W g2 3 (four a2 b2 c2 d2)) => I2.out g2 a2 b2 c2 d2 q1 q2 q3 q4 q5 W h
    have s2 := fun W (h : Arr W g2 3 (four a2 b2 c2 d2)) => S2.out g2 a2 b2 c2 d2 q1 q2 q3 q4 (by omega) W h
    clear ha hb hc hd hs hA hbl p1 p2 p3 p4 p5 q1 q2 q3 q4 q5 I1 I2 S1 S2
    generalize restVal _ [a, b, c, d] _ _ = v1 at *
    generalize restVal _ [a2, b2, c2, d2] _ _ = v2 at *
    have S1 := hid s1
    have I2 := hid i2
    have S2 := hid s2
    clear s1 i2 s2
    go_wp2_with fail
    refine i1.mono ?_
    clear i1
    rintro e w3 ⟨rfl, hbl⟩
    have A13 := hid (A12.out.below hbl A12.out.lt)
    have A23 := hid (A2.out.below hbl A2.out.lt)
    have B3 := hid (B2.out.trans (hbl.mono B2.out.size))
    have s1 := S1.out w3 A13.out
    clear hbl
    go_wp2_with fail
    refine s1.mono ?_
    clear s1
    rintro e w4 ⟨rfl, rfl⟩
    have i2 := I2.out w3 A23.out
    go_wp2_with fail
    refine i2.mono ?_
    clear i2
    rintro e w5 ⟨rfl, hbl⟩
    have A24 := hid (A23.out.below hbl A23.out.lt)
    have B4 := hid (B3.out.trans (hbl.mono B3.out.size))
    have s2 := S2.out w5 A24.out
    clear hbl
    go_wp2_with fail
    refine s2.mono ?_
    clear s2
    rintro e w6 ⟨rfl, rfl⟩
    go_wp2_with fail
    go_ret
    exact ⟨rfl, B4.out⟩

set_option maxRecDepth 20000 in
set_option maxHeartbeats 4000000 in
theorem rvInner22 (A : Option Addr) (n cap : Nat) (B : Nat → Nat) (z : Int) (hz0 : 0 ≤ z) (hz1 : z ≤ 255) (hz5 : z % 5 = 2) (hz4 : z % 4 = 2) (w : World) (hR : RdB w A n B) (hn : n ≤ 2147483647) :
    Calls Try.prog 5 #[.slice A n cap, .int .u8 z, .bool true] w fun e w' => e = .returned (.bool true) ∧ Below w.heap.size w w' := by
  have f1 : ∀ W, RdB W A n B → Calls Try.prog 13 #[.slice A n cap, .int .i64 9, .int .i64 6] W (FourAt 9 6 W) := fun W h => (rvFour A n cap B 9 6 W h hn (by decide) (by decide) (by decide)).mono fun _ _ h => h.at_
  have f2 : ∀ W, RdB W A n B → Calls Try.prog 13 #[.slice A n cap, .int .i64 6, .int .i64 3] W (FourAt 6 3 W) := fun W h => (rvFour A n cap B 6 3 W h hn (by decide) (by decide) (by decide)).mono fun _ _ h => h.at_
  have HB := hid fun (m : Nat) => below_drewN (Below.refl w.heap.size w) m
  have HR := hid hR
  have F1 := hid f1
  have F2 := hid f2
  have I1 := hid (fun g a b c d ha hb hc hd hs W hA => implRSS g a b c d 6 9 true (by decide) ha hb hc hd hs (by decide) (by decide) W hA)
  have S1 := hid (fun g a b c d ha hb hc hd h W hA => restSpec g a b c d 6 true ha hb hc hd h (by decide) W hA)
  have I2 := hid (fun g a b c d ha hb hc hd hs W hA => implRSS g a b c d 3 6 false (by decide) ha hb hc hd hs (by decide) (by decide) W hA)
  have S2 := hid (fun g a b c d ha hb hc hd h W hA => restSpec g a b c d 3 false ha hb hc hd h (by decide) W hA)
  clear f1 f2 hR
  have ix5 : ∀ w, (Instr.index 32 (.agg #[.int .i64 8, .int .i64 6, .int .i64 4, .int .i64 3, .int .i64 1]) (.int .u8 2)).run Try.prog w = .ok (.int .i64 4) w := fun _ => by kernel_rfl
  have ix4 : ∀ w, (Instr.index 33 (.agg #[.int .i64 2, .int .i64 4, .int .i64 6, .int .i64 8]) (.int .u8 2)).run Try.prog w = .ok (.int .i64 6) w := fun _ => by kernel_rfl
  go_enter Try.func5, Try.ntmps5
  go_wp2_with fail
  go_quiet (fail)
  go_wp2_with fail
  go_quiet (fail)
  go_wp2_with fail
  all_goals
    generalize hwd : w.drewN _ = W0
    have B0 := hid (show Below w.heap.size w W0 from by rw [← hwd]; exact HB.out _)
    have R0 : RdB W0 A n B := HR.out.below B0.out
    have HR0 := hid R0
    clear hwd
    refine (F1.out _ R0).mono ?_
    clear R0
    rintro e w1 ⟨g1, a, b, c, d, rfl, hA, ha, hb, hc, hd, hs, hbl⟩
    have P1 := hid (show 1 = 1 ∧ _ ∧ _ ∧ _ ∧ _ ∧ _ from ⟨rfl, ha, hb, hc, hd, hs⟩)
    have A1 := hid hA
    have R1 := hid (HR0.out.below hbl)
    have B1 := hid (B0.out.trans (hbl.mono B0.out.size))
    have f2 := F2.out w1 R1.out
    clear ha hb hc hd hs hA hbl
    go_wp2_with fail
    refine f2.mono ?_
    clear f2
    rintro e w2 ⟨g2, a2, b2, c2, d2, rfl, hA, ha, hb, hc, hd, hs, hbl⟩
    have P2 := hid (show 1 = 1 ∧ _ ∧ _ ∧ _ ∧ _ ∧ _ from ⟨rfl, ha, hb, hc, hd, hs⟩)
    have A2 := hid hA
    have A12 := hid (A1.out.below hbl A1.out.lt)
    have B2 := hid (B1.out.trans (hbl.mono B1.out.size))
    obtain ⟨_, p1, p2, p3, p4, p5⟩ := P1.out
    obtain ⟨_, q1, q2, q3, q4, q5⟩ := P2.out
    have i1 := I1.out g1 a b c d p1 p2 p3 p4 p5 w2 A12.out
    have s1 := fun W (h : Arr W g1 3 (four a b c d)) => S1.out g1 a b c d p1 p2 p3 p4 (by omega) W h
    have i2 := fun W (h : Arr W g2 3 (four a2 b2 c2 d2)) => I2.out g2 a2 b2 c2 d2 q1 q2 q3 q4 q5 W h
    have s2 := fun W (h : Arr W g2 3 (four a2 b2 c2 d2)) => S2.out g2 a2 b2 c2 d2 q1 q2 q3 q4 (by omega) W h
    clear ha hb hc hd hs hA hbl p1 p2 p3 p4 p5 q1 q2 q3 q4 q5 I1 I2 S1 S2
    generalize restVal _ [a, b, c, d] _ _ = v1 at *
    generalize restVal _ [a2, b2, c2, d2] _ _ = v2 at *
    have S1 := hid s1
    have I2 := hid i2
    have S2 := hid s2
    clear s1 i2 s2
    go_wp2_with fail
    refine i1.mono ?_
    clear i1
    rintro e w3 ⟨rfl, hbl⟩
    have A13 := hid (A12.out.below hbl A12.out.lt)
    have A23 := hid (A2.out.below hbl A2.out.lt)
    have B3 := hid (B2.out.trans (hbl.mono B2.out.size))
    have s1 := S1.out w3 A13.out
    clear hbl
    go_wp2_with fail
    refine s1.mono ?_
    clear s1
    rintro e w4 ⟨rfl, rfl⟩
    have i2 := I2.out w3 A23.out
    go_wp2_with fail
    refine i2.mono ?_
    clear i2
    rintro e w5 ⟨rfl, hbl⟩
    have A24 := hid (A23.out.below hbl A23.out.lt)
    have B4 := hid (B3.out.trans (hbl.mono B3.out.size))
    have s2 := S2.out w5 A24.out
    clear hbl
    go_wp2_with fail
    refine s2.mono ?_
    clear s2
    rintro e w6 ⟨rfl, rfl⟩
    go_wp2_with fail
    go_ret
    exact ⟨rfl, B4.out⟩

set_option maxRecDepth 20000 in
set_option maxHeartbeats 4000000 in
theorem rvInner23 (A : Option Addr) (n cap : Nat) (B : Nat → Nat) (z : Int) (hz0 : 0 ≤ z) (hz1 : z ≤ 255) (hz5 : z % 5 = 2) (hz4 : z % 4 = 3) (w : World) (hR : RdB w A n B) (hn : n ≤ 2147483647) :
    Calls Try.prog 5 #[.slice A n cap, .int .u8 z, .bool true] w fun e w' => e = .returned (.bool true) ∧ Below w.heap.size w w' := by
  have f1 : ∀ W, RdB W A n B → Calls Try.prog 13 #[.slice A n cap, .int .i64 11, .int .i64 8] W (FourAt 11 8 W) := fun W h => (rvFour A n cap B 11 8 W h hn (by decide) (by decide) (by decide)).mono fun _ _ h => h.at_
  have f2 : ∀ W, RdB W A n B → Calls Try.prog 13 #[.slice A n cap, .int .i64 4, .int .i64 1] W (FourAt 4 1 W) := fun W h => (rvFour A n cap B 4 1 W h hn (by decide) (by decide) (by decide)).mono fun _ _ h => h.at_
  have HB := hid fun (m : Nat) => below_drewN (Below.refl w.heap.size w) m
  have HR := hid hR
  have F1 := hid f1
  have F2 := hid f2
  have I1 := hid (fun g a b c d ha hb hc hd hs W hA => implRSS g a b c d 8 11 true (by decide) ha hb hc hd hs (by decide) (by decide) W hA)
  have S1 := hid (fun g a b c d ha hb hc hd h W hA => restSpec g a b c d 8 true ha hb hc hd h (by decide) W hA)
  have I2 := hid (fun g a b c d ha hb hc hd hs W hA => implRSS g a b c d 1 4 false (by decide) ha hb hc hd hs (by decide) (by decide) W hA)
  have S2 := hid (fun g a b c d ha hb hc hd h W hA => restSpec g a b c d 1 false ha hb hc hd h (by decide) W hA)
  clear f1 f2 hR
  have ix5 : ∀ w, (Instr.index 32 (.agg #[.int .i64 8, .int .i64 6, .int .i64 4, .int .i64 3, .int .i64 1]) (.int .u8 2)).run Try.prog w = .ok (.int .i64 4) w := fun _ => by kernel_rfl
  have ix4 : ∀ w, (Instr.index 33 (.agg #[.int .i64 2, .int .i64 4, .int .i64 6, .int .i64 8]) (.int .u8 3)).run Try.prog w = .ok (.int .i64 8) w := fun _ => by kernel_rfl
  go_enter Try.func5, Try.ntmps5
  go_wp2_with fail
  go_quiet (fail)
  go_wp2_with fail
  go_quiet (fail)
  go_wp2_with fail
  all_goals
    generalize hwd : w.drewN _ = W0
    have B0 := hid (show Below w.heap.size w W0 from by rw [← hwd]; exact HB.out _)
    have R0 : RdB W0 A n B := HR.out.below B0.out
    have HR0 := hid R0
    clear hwd
    refine (F1.out _ R0).mono ?_
    clear R0
    rintro e w1 ⟨g1, a, b, c, d, rfl, hA, ha, hb, hc, hd, hs, hbl⟩
    have P1 := hid (show 1 = 1 ∧ _ ∧ _ ∧ _ ∧ _ ∧ _ from ⟨rfl, ha, hb, hc, hd, hs⟩)
    have A1 := hid hA
    have R1 := hid (HR0.out.below hbl)
    have B1 := hid (B0.out.trans (hbl.mono B0.out.size))
    have f2 := F2.out w1 R1.out
    clear ha hb hc hd hs hA hbl
    go_wp2_with fail
    refine f2.mono ?_
    clear f2
    rintro e w2 ⟨g2, a2, b2, c2, d2, rfl, hA, ha, hb, hc, hd, hs, hbl⟩
    have P2 := hid (show 1 = 1 ∧ _ ∧ _ ∧ _ ∧ _ ∧ _ from ⟨rfl, ha, hb, hc, hd, hs⟩)
    have A2 := hid hA
    have A12 := hid (A1.out.below hbl A1.out.lt)
    have B2 := hid (B1.out.trans (hbl.mono B1.out.size))
    obtain ⟨_, p1, p2, p3, p4, p5⟩ := P1.out
    obtain ⟨_, q1, q2, q3, q4, q5⟩ := P2.out
    have i1 := I1.out g1 a b c d p1 p2 p3 p4 p5 w2 A12.out
    have s1 := fun W (h : Arr W g1 3 (four a b c d)) => S1.out g1 a b c d p1 p2 p3 p4 (by omega) W h
    have i2 := fun W (h : Arr W g2 3 (four a2 b2 c2 d2)) => I2.out g2 a2 b2 c2 d2 q1 q2 q3 q4 q5 W h
    have s2 := fun W (h : Arr W g2 3 (four a2 b2 c2 d2)) => S2.out g2 a2 b2 c2 d2 q1 q2 q3 q4 (by omega) W h
    clear ha hb hc hd hs hA hbl p1 p2 p3 p4 p5 q1 q2 q3 q4 q5 I1 I2 S1 S2
    generalize restVal _ [a, b, c, d] _ _ = v1 at *
    generalize restVal _ [a2, b2, c2, d2] _ _ = v2 at *
    have S1 := hid s1
    have I2 := hid i2
    have S2 := hid s2
    clear s1 i2 s2
    go_wp2_with fail
    refine i1.mono ?_
    clear i1
    rintro e w3 ⟨rfl, hbl⟩
    have A13 := hid (A12.out.below hbl A12.out.lt)
    have A23 := hid (A2.out.below hbl A2.out.lt)
    have B3 := hid (B2.out.trans (hbl.mono B2.out.size))
    have s1 := S1.out w3 A13.out
    clear hbl
    go_wp2_with fail
    refine s1.mono ?_
    clear s1
    rintro e w4 ⟨rfl, rfl⟩
    have i2 := I2.out w3 A23.out
    go_wp2_with fail
    refine i2.mono ?_
    clear i2
    rintro e w5 ⟨rfl, hbl⟩
    have A24 := hid (A23.out.below hbl A23.out.lt)
    have B4 := hid (B3.out.trans (hbl.mono B3.out.size))
    have s2 := S2.out w5 A24.out
    clear hbl
    go_wp2_with fail
    refine s2.mono ?_
    clear s2
    rintro e w6 ⟨rfl, rfl⟩
    go_wp2_with fail
    go_ret
    exact ⟨rfl, B4.out⟩

set_option maxRecDepth 20000 in
set_option maxHeartbeats 4000000 in
theorem rvInner30 (A : Option Addr) (n cap : Nat) (B : Nat → Nat) (z : Int) (hz0 : 0 ≤ z) (hz1 : z ≤ 255) (hz5 : z % 5 = 3) (hz4 : z % 4 = 0) (w : World) (hR : RdB w A n B) (hn : n ≤ 2147483647) :
    Calls Try.prog 5 #[.slice A n cap, .int .u8 z, .bool true] w fun e w' => e = .returned (.bool true) ∧ Below w.heap.size w w' := by
  have f1 : ∀ W, RdB W A n B → Calls Try.prog 13 #[.slice A n cap, .int .i64 5, .int .i64 2] W (FourAt 5 2 W) := fun W h => (rvFour A n cap B 5 2 W h hn (by decide) (by decide) (by decide)).mono fun _ _ h => h.at_
  have f2 : ∀ W, RdB W A n B → Calls Try.prog 13 #[.slice A n cap, .int .i64 10, .int .i64 7] W (FourAt 10 7 W) := fun W h => (rvFour A n cap B 10 7 W h hn (by decide) (by decide) (by decide)).mono fun _ _ h => h.at_
  have HB := hid fun (m : Nat) => below_drewN (Below.refl w.heap.size w) m
  have HR := hid hR
  have F1 := hid f1
  have F2 := hid f2
  have I1 := hid (fun g a b c d ha hb hc hd hs W hA => implRSS g a b c d 2 5 true (by decide) ha hb hc hd hs (by decide) (by decide) W hA)
  have S1 := hid (fun g a b c d ha hb hc hd h W hA => restSpec g a b c d 2 true ha hb hc hd h (by decide) W hA)
  have I2 := hid (fun g a b c d ha hb hc hd hs W hA => implRSS g a b c d 7 10 false (by decide) ha hb hc hd hs (by decide) (by decide) W hA)
  have S2 := hid (fun g a b c d ha hb hc hd h W hA => restSpec g a b c d 7 false ha hb hc hd h (by decide) W hA)
  clear f1 f2 hR
  have ix5 : ∀ w, (Instr.index 32 (.agg #[.int .i64 8, .int .i64 6, .int .i64 4, .int .i64 3, .int .i64 1]) (.int .u8 3)).run Try.prog w = .ok (.int .i64 3) w := fun _ => by kernel_rfl
  have ix4 : ∀ w, (Instr.index 33 (.agg #[.int .i64 2, .int .i64 4, .int .i64 6, .int .i64 8]) (.int .u8 0)).run Try.prog w = .ok (.int .i64 2) w := fun _ => by kernel_rfl
  go_enter Try.func5, Try.ntmps5
  go_wp2_with fail
  go_quiet (fail)
  go_wp2_with fail
  go_quiet (fail)
  go_wp2_with fail
  all_goals
    generalize hwd : w.drewN _ = W0
    have B0 := hid (show Below w.heap.size w W0 from by rw [← hwd]; exact HB.out _)
    have R0 : RdB W0 A n B := HR.out.below B0.out
    have HR0 := hid R0
    clear hwd
    refine (F1.out _ R0).mono ?_
    clear R0
    rintro e w1 ⟨g1, a, b, c, d, rfl, hA, ha, hb, hc, hd, hs, hbl⟩
    have P1 := hid (show 1 = 1 ∧ _ ∧ _ ∧ _ ∧ _ ∧ _ from ⟨rfl, ha, hb, hc, hd, hs⟩)
    have A1 := hid hA
    have R1 := hid (HR0.out.below hbl)
    have B1 := hid (B0.out.trans (hbl.mono B0.out.size))
    have f2 := F2.out w1 R1.out
    clear ha hb hc hd hs hA hbl
    go_wp2_with fail
    refine f2.mono ?_
    clear f2
    rintro e w2 ⟨g2, a2, b2, c2, d2, rfl, hA, ha, hb, hc, hd, hs, hbl⟩
    have P2 := hid (show 1 = 1 ∧ _ ∧ _ ∧ _ ∧ _ ∧ _ from ⟨rfl, ha, hb, hc, hd, hs⟩)
    have A2 := hid hA
    have A12 := hid (A1.out.below hbl A1.out.lt)
    have B2 := hid (B1.out.trans (hbl.mono B1.out.size))
    obtain ⟨_, p1, p2, p3, p4, p5⟩ := P1.out
    obtain ⟨_, q1, q2, q3, q4, q5⟩ := P2.out
    have i1 := I1.out g1 a b c d p1 p2 p3 p4 p5 w2 A12.out
    have s1 := fun W (h : Arr W g1 3 (four a b c d)) => S1.out g1 a b c d p1 p2 p3 p4 (by omega) W h
    have i2 := fun W (h : Arr W g2 3 (four a2 b2 c2 d2)) => I2.out g2 a2 b2 c2 d2 q1 q2 q3 q4 q5 W h
    have s2 := fun W (h : Arr W g2 3 (four a2 b2 c2 d2)) => S2.out g2 a2 b2 c2 d2 q1 q2 q3 q4 (by omega) W h
    clear ha hb hc hd hs hA hbl p1 p2 p3 p4 p5 q1 q2 q3 q4 q5 I1 I2 S1 S2
    generalize restVal _ [a, b, c, d] _ _ = v1 at *
    generalize restVal _ [a2, b2, c2, d2] _ _ = v2 at *
    have S1 := hid s1
    have I2 := hid i2
    have S2 := hid s2
    clear s1 i2 s2
    go_wp2_with fail
    refine i1.mono ?_
    clear i1
    rintro e w3 ⟨rfl, hbl⟩
    have A13 := hid (A12.out.below hbl A12.out.lt)
    have A23 := hid (A2.out.below hbl A2.out.lt)
    have B3 := hid (B2.out.trans (hbl.mono B2.out.size))
    have s1 := S1.out w3 A13.out
    clear hbl
    go_wp2_with fail
    refine s1.mono ?_
    clear s1
    rintro e w4 ⟨rfl, rfl⟩
    have i2 := I2.out w3 A23.out
    go_wp2_with fail
    refine i2.mono ?_
    clear i2
    rintro e w5 ⟨rfl, hbl⟩
    have A24 := hid (A23.out.below hbl A23.out.lt)
    have B4 := hid (B3.out.trans (hbl.mono B3.out.size))
    have s2 := S2.out w5 A24.out
    clear hbl
    go_wp2_with fail
    refine s2.mono ?_
    clear s2
    rintro e w6 ⟨rfl, rfl⟩
    go_wp2_with fail
    go_ret
    exact ⟨rfl, B4.out⟩

set_option maxRecDepth 20000 in
set_option maxHeartbeats 4000000 in
theorem rvInner31 (A : Option Addr) (n cap : Nat) (B : Nat → Nat) (z : Int) (hz0 : 0 ≤ z) (hz1 : z ≤ 255) (hz5 : z % 5 = 3) (hz4 : z % 4 = 1) (w : World) (hR : RdB w A n B) (hn : n ≤ 2147483647) :
    Calls Try.prog 5 #[.slice A n cap, .int .u8 z, .bool true] w fun e w' => e = .returned (.bool true) ∧ Below w.heap.size w w' := by
  have f1 : ∀ W, RdB W A n B → Calls Try.prog 13 #[.slice A n cap, .int .i64 7, .int .i64 4] W (FourAt 7 4 W) := fun W h => (rvFour A n cap B 7 4 W h hn (by decide) (by decide) (by decide)).mono fun _ _ h => h.at_
  have f2 : ∀ W, RdB W A n B → Calls Try.prog 13 #[.slice A n cap, .int .i64 8, .int .i64 5] W (FourAt 8 5 W) := fun W h => (rvFour A n cap B 8 5 W h hn (by decide) (by decide) (by decide)).mono fun _ _ h => h.at_
  have HB := hid fun (m : Nat) => below_drewN (Below.refl w.heap.size w) m
  have HR := hid hR
  have F1 := hid f1
  have F2 := hid f2
  have I1 := hid (fun g a b c d ha hb hc hd hs W hA => implRSS g a b c d 4 7 true (by decide) ha hb hc hd hs (by decide) (by decide) W hA)
  have S1 := hid (fun g a b c d ha hb hc hd h W hA => restSpec g a b c d 4 true ha hb hc hd h (by decide) W hA)
  have I2 := hid (fun g a b c d ha hb hc hd hs W hA => implRSS g a b c d 5 8 false (by decide) ha hb hc hd hs (by decide) (by decide) W hA)
  have S2 := hid (fun g a b c d ha hb hc hd h W hA => restSpec g a b c d 5 false ha hb hc hd h (by decide) W hA)
  clear f1 f2 hR
  have ix5 : ∀ w, (Instr.index 32 (.agg #[.int .i64 8, .int .i64 6, .int .i64 4, .int .i64 3, .int .i64 1]) (.int .u8 3)).run Try.prog w = .ok (.int .i64 3) w := fun _ => by kernel_rfl
  have ix4 : ∀ w, (Instr.index 33 (.agg #[.int .i64 2, .int .i64 4, .int .i64 6, .int .i64 8]) (.int .u8 1)).run Try.prog w = .ok (.int .i64 4) w := fun _ => by kernel_rfl
  go_enter Try.func5, Try.ntmps5
  go_wp2_with fail
  go_quiet (fail)
  go_wp2_with fail
  go_quiet (fail)
  go_wp2_with fail
  all_goals
    generalize hwd : w.drewN _ = W0
    have B0 := hid (show Below w.heap.size w W0 from by rw [← hwd]; exact HB.out _)
    have R0 : RdB W0 A n B := HR.out.below B0.out
    have HR0 := hid R0
    clear hwd
    refine (F1.out _ R0).mono ?_
    clear R0
    rintro e w1 ⟨g1, a, b, c, d, rfl, hA, ha, hb, hc, hd, hs, hbl⟩
    have P1 := hid (show 1 = 1 ∧ _ ∧ _ ∧ _ ∧ _ ∧ _ from ⟨rfl, ha, hb, hc, hd, hs⟩)
    have A1 := hid hA
    have R1 := hid (HR0.out.below hbl)
    have B1 := hid (B0.out.trans (hbl.mono B0.out.size))
    have f2 := F2.out w1 R1.out
    clear ha hb hc hd hs hA hbl
    go_wp2_with fail
    refine f2.mono ?_
    clear f2
    rintro e w2 ⟨g2, a2, b2, c2, d2, rfl, hA, ha, hb, hc, hd, hs, hbl⟩
    have P2 := hid (show 1 = 1 ∧ _ ∧ _ ∧ _ ∧ _ ∧ _ from ⟨rfl, ha, hb, hc, hd, hs⟩)
    have A2 := hid hA
    have A12 := hid (A1.out.below hbl A1.out.lt)
    have B2 := hid (B1.out.trans (hbl.mono B1.out.size))
    obtain ⟨_, p1, p2, p3, p4, p5⟩ := P1.out
    obtain ⟨_, q1, q2, q3, q4, q5⟩ := P2.out
    have i1 := I1.out g1 a b c d p1 p2 p3 p4 p5 w2 A12.out
    have s1 := fun W (h : Arr W g1 3 (four a b c d)) => S1.out g1 a b c d p1 p2 p3 p4 (by omega) W h
    have i2 := fun W (h : Arr W g2 3 (four a2 b2 c2 d2)) => I2.out g2 a2 b2 c2 d2 q1 q2 q3 q4 q5 W h
    have s2 := fun W (h : Arr W g2 3 (four a2 b2 c2 d2)) => S2.out g2 a2 b2 c2 d2 q1 q2 q3 q4 (by omega) W h
    clear ha hb hc hd hs hA hbl p1 p2 p3 p4 p5 q1 q2 q3 q4 q5 I1 I2 S1 S2
    generalize restVal _ [a, b, c, d] _ _ = v1 at *
    generalize restVal _ [a2, b2, c2, d2] _ _ = v2 at *
    have S1 := hid s1
    have I2 := hid i2
    have S2 := hid s2
    clear s1 i2 s2
    go_wp2_with fail
    refine i1.mono ?_
    clear i1
    rintro e w3 ⟨rfl, hbl⟩
    have A13 := hid (A12.out.below hbl A12.out.lt)
    have A23 := hid (A2.out.below hbl A2.out.lt)
    have B3 := hid (B2.out.trans (hbl.mono B2.out.size))
    have s1 := S1.out w3 A13.out
    clear hbl
    go_wp2_with fail
    refine s1.mono ?_
    clear s1
    rintro e w4 ⟨rfl, rfl⟩
    have i2 := I2.out w3 A23.out
    go_wp2_with fail
    refine i2.mono ?_
    clear i2
    rintro e w5 ⟨rfl, hbl⟩
    have A24 := hid (A23.out.below hbl A23.out.lt)
    have B4 := hid (B3.out.trans (hbl.mono B3.out.size))
    have s2 := S2.out w5 A24.out
    clear hbl
    go_wp2_with fail
    refine s2.mono ?_
    clear s2
    rintro e w6 ⟨rfl, rfl⟩
    go_wp2_with fail
    go_ret
    exact ⟨rfl, B4.out⟩

set_option maxRecDepth 20000 in
set_option maxHeartbeats 4000000 in
theorem rvInner32 (A : Option Addr) (n cap : Nat) (B : Nat → Nat) (z : Int) (hz0 : 0 ≤ z) (hz1 : z ≤ 255) (hz5 : z % 5 = 3) (hz4 : z % 4 = 2) (w : World) (hR : RdB w A n B) (hn : n ≤ 2147483647) :
    Calls Try.prog 5 #[.slice A n cap, .int .u8 z, .bool true] w fun e w' => e = .returned (.bool true) ∧ Below w.heap.size w w' := by
  have f1 : ∀ W, RdB W A n B → Calls Try.prog 13 #[.slice A n cap, .int .i64 9, .int .i64 6] W (FourAt 9 6 W) := fun W h => (rvFour A n cap B 9 6 W h hn (by decide) (by decide) (by decide)).mono fun _ _ h => h.at_
  have f2 : ∀ W, RdB W A n B → Calls Try.prog 13 #[.slice A n cap, .int .i64 6, .int .i64 3] W (FourAt 6 3 W) := fun W h => (rvFour A n cap B 6 3 W h hn (by decide) (by decide) (by decide)).mono fun _ _ h => h.at_
  have HB := hid fun (m : Nat) => below_drewN (Below.refl w.heap.size w) m
  have HR := hid hR
  have F1 := hid f1
  have F2 := hid f2
  have I1 := hid (fun g a b c d ha hb hc hd hs W hA => implRSS g a b c d 6 9 true (by decide) ha hb hc hd hs (by decide) (by decide) W hA)
  have S1 := hid (fun g a b c d ha hb hc hd h W hA => restSpec g a b c d 6 true ha hb hc hd h (by decide) W hA)
  have I2 := hid (fun g a b c d ha hb hc hd hs W hA => implRSS g a b c d 3 6 false (by decide) ha hb hc hd hs (by decide) (by decide) W hA)
  have S2 := hid (fun g a b c d ha hb hc hd h W hA => restSpec g a b c d 3 false ha hb hc hd h (by decide) W hA)
  clear f1 f2 hR
  have ix5 : ∀ w, (Instr.index 32 (.agg #[.int .i64 8, .int .i64 6, .int .i64 4, .int .i64 3, .int .i64 1]) (.int .u8 3)).run Try.prog w = .ok (.int .i64 3) w := fun _ => by kernel_rfl
  have ix4 : ∀ w, (Instr.index 33 (.agg #[.int .i64 2, .int .i64 4, .int .i64 6, .int .i64 8]) (.int .u8 2)).run Try.prog w = .ok (.int .i64 6) w := fun _ => by kernel_rfl
  go_enter Try.func5, Try.ntmps5
  go_wp2_with fail
  go_quiet (fail)
  go_wp2_with fail
  go_quiet (fail)
  go_wp2_with fail
  all_goals
    generalize hwd : w.drewN _ = W0
    have B0 := hid (show Below w.heap.size w W0 from by rw [← hwd]; exact HB.out _)
    have R0 : RdB W0 A n B := HR.out.below B0.out
    have HR0 := hid R0
    clear hwd
    refine (F1.out _ R0).mono ?_
    clear R0
    rintro e w1 ⟨g1, a, b, c, d, rfl, hA, ha, hb, hc, hd, hs, hbl⟩
    have P1 := hid (show 1 = 1 ∧ _ ∧ _ ∧ _ ∧ _ ∧ _ from ⟨rfl, ha, hb, hc, hd, hs⟩)
    have A1 := hid hA
    have R1 := hid (HR0.out.below hbl)
    have B1 := hid (B0.out.trans (hbl.mono B0.out.size))
    have f2 := F2.out w1 R1.out
    clear ha hb hc hd hs hA hbl
    go_wp2_with fail
    refine f2.mono ?_
    clear f2
    rintro e w2 ⟨g2, a2, b2, c2, d2, rfl, hA, ha, hb, hc, hd, hs, hbl⟩
    have P2 := hid (show 1 = 1 ∧ _ ∧ _ ∧ _ ∧ _ ∧ _ from ⟨rfl, ha, hb, hc, hd, hs⟩)
    have A2 := hid hA
    have A12 := hid (A1.out.below hbl A1.out.lt)
    have B2 := hid (B1.out.trans (hbl.mono B1.out.size))
    obtain ⟨_, p1, p2, p3, p4, p5⟩ := P1.out
    obtain ⟨_, q1, q2, q3, q4, q5⟩ := P2.out
    have i1 := I1.out g1 a b c d p1 p2 p3 p4 p5 w2 A12.out
    have s1 := fun W (h : Arr W g1 3 (four a b c d)) => S1.out g1 a b c d p1 p2 p3 p4 (by omega) W h
    have i2 := fun W (h : Arr W g2 3 (four a2 b2 c2 d2)) => I2.out g2 a2 b2 c2 d2 q1 q2 q3 q4 q5 W h
    have s2 := fun W (h : Arr W g2 3 (four a2 b2 c2 d2)) => S2.out g2 a2 b2 c2 d2 q1 q2 q3 q4 (by omega) W h
    clear ha hb hc hd hs hA hbl p1 p2 p3 p4 p5 q1 q2 q3 q4 q5 I1 I2 S1 S2
    generalize restVal _ [a, b, c, d] _ _ = v1 at *
    generalize restVal _ [a2, b2, c2, d2] _ _ = v2 at *
    have S1 := hid s1
    have I2 := hid i2
    have S2 := hid s2
    clear s1 i2 s2
    go_wp2_with fail
    refine i1.mono ?_
    clear i1
    rintro e w3 ⟨rfl, hbl⟩
    have A13 := hid (A12.out.below hbl A12.out.lt)
    have A23 := hid (A2.out.below hbl A2.out.lt)
    have B3 := hid (B2.out.trans (hbl.mono B2.out.size))
    have s1 := S1.out w3 A13.out
    clear hbl
    go_wp2_with fail
    refine s1.mono ?_
    clear s1
    rintro e w4 ⟨rfl, rfl⟩
    have i2 := I2.out w3 A23.out
    go_wp2_with fail
    refine i2.mono ?_
    clear i2
    rintro e w5 ⟨rfl, hbl⟩
    have A24 := hid (A23.out.below hbl A23.out.lt)
    have B4 := hid (B3.out.trans (hbl.mono B3.out.size))
    have s2 := S2.out w5 A24.out
    clear hbl
    go_wp2_with fail
    refine s2.mono ?_
    clear s2
    rintro e w6 ⟨rfl, rfl⟩
    go_wp2_with fail
    go_ret
    exact ⟨rfl, B4.out⟩

set_option maxRecDepth 20000 in
set_option maxHeartbeats 4000000 in
theorem rvInner33 (A : Option Addr) (n cap : Nat) (B : Nat → Nat) (z : Int) (hz0 : 0 ≤ z) (hz1 : z ≤ 255) (hz5 : z % 5 = 3) (hz4 : z % 4 = 3) (w : World) (hR : RdB w A n B) (hn : n ≤ 2147483647) :
    Calls Try.prog 5 #[.slice A n cap, .int .u8 z, .bool true] w fun e w' => e = .returned (.bool true) ∧ Below w.heap.size w w' := by
  have f1 : ∀ W, RdB W A n B → Calls Try.prog 13 #[.slice A n cap, .int .i64 11, .int .i64 8] W (FourAt 11 8 W) := fun W h => (rvFour A n cap B 11 8 W h hn (by decide) (by decide) (by decide)).mono fun _ _ h => h.at_
  have f2 : ∀ W, RdB W A n B → Calls Try.prog 13 #[.slice A n cap, .int .i64 4, .int .i64 1] W (FourAt 4 1 W) := fun W h => (rvFour A n cap B 4 1 W h hn (by decide) (by decide) (by decide)).mono fun _ _ h => h.at_
  have HB := hid fun (m : Nat) => below_drewN (Below.refl w.heap.size w) m
  have HR := hid hR
  have F1 := hid f1
  have F2 := hid f2
  have I1 := hid (fun g a b c d ha hb hc hd hs W hA => implRSS g a b c d 8 11 true (by decide) ha hb hc hd hs (by decide) (by decide) W hA)
  have S1 := hid (fun g a b c d ha hb hc hd h W hA => restSpec g a b c d 8 true ha hb hc hd h (by decide) W hA)
  have I2 := hid (fun g a b c d ha hb hc hd hs W hA => implRSS g a b c d 1 4 false (by decide) ha hb hc hd hs (by decide) (by decide) W hA)
  have S2 := hid (fun g a b c d ha hb hc hd h W hA => restSpec g a b c d 1 false ha hb hc hd h (by decide) W hA)
  clear f1 f2 hR
  have ix5 : ∀ w, (Instr.index 32 (.agg #[.int .i64 8, .int .i64 6, .int .i64 4, .int .i64 3, .int .i64 1]) (.int .u8 3)).run Try.prog w = .ok (.int .i64 3) w := fun _ => by kernel_rfl
  have ix4 : ∀ w, (Instr.index 33 (.agg #[.int .i64 2, .int .i64 4, .int .i64 6, .int .i64 8]) (.int .u8 3)).run Try.prog w = .ok (.int .i64 8) w := fun _ => by kernel_rfl
  go_enter Try.func5, Try.ntmps5
  go_wp2_with fail
  go_quiet (fail)
  go_wp2_with fail
  go_quiet (fail)
  go_wp2_with fail
  all_goals
    generalize hwd : w.drewN _ = W0
    have B0 := hid (show Below w.heap.size w W0 from by rw [← hwd]; exact HB.out _)
    have R0 : RdB W0 A n B := HR.out.below B0.out
    have HR0 := hid R0
    clear hwd
    refine (F1.out _ R0).mono ?_
    clear R0
    rintro e w1 ⟨g1, a, b, c, d, rfl, hA, ha, hb, hc, hd, hs, hbl⟩
    have P1 := hid (show 1 = 1 ∧ _ ∧ _ ∧ _ ∧ _ ∧ _ from ⟨rfl, ha, hb, hc, hd, hs⟩)
    have A1 := hid hA
    have R1 := hid (HR0.out.below hbl)
    have B1 := hid (B0.out.trans (hbl.mono B0.out.size))
    have f2 := F2.out w1 R1.out
    clear ha hb hc hd hs hA hbl
    go_wp2_with fail
    refine f2.mono ?_
    clear f2
    rintro e w2 ⟨g2, a2, b2, c2, d2, rfl, hA, ha, hb, hc, hd, hs, hbl⟩
    have P2 := hid (show 1 = 1 ∧ _ ∧ _ ∧ _ ∧ _ ∧ _ from ⟨rfl, ha, hb, hc, hd, hs⟩)
    have A2 := hid hA
    have A12 := hid (A1.out.below hbl A1.out.lt)
    have B2 := hid (B1.out.trans (hbl.mono B1.out.size))
    obtain ⟨_, p1, p2, p3, p4, p5⟩ := P1.out
    obtain ⟨_, q1, q2, q3, q4, q5⟩ := P2.out
    have i1 := I1.out g1 a b c d p1 p2 p3 p4 p5 w2 A12.out
    have s1 := fun W (h : Arr W g1 3 (four a b c d)) => S1.out g1 a b c d p1 p2 p3 p4 (by omega) W h
    have i2 := fun W (h : Arr W g2 3 (four a2 b2 c2 d2)) => I2.out g2 a2 b2 c2 d2 q1 q2 q3 q4 q5 W h
    have s2 := fun W (h : Arr W g2 3 (four a2 b2 c2 d2)) => S2.out g2 a2 b2 c2 d2 q1 q2 q3 q4 (by omega) W h
    clear ha hb hc hd hs hA hbl p1 p2 p3 p4 p5 q1 q2 q3 q4 q5 I1 I2 S1 S2
    generalize restVal _ [a, b, c, d] _ _ = v1 at *
    generalize restVal _ [a2, b2, c2, d2] _ _ = v2 at *
    have S1 := hid s1
    have I2 := hid i2
    have S2 := hid s2
    clear s1 i2 s2
    go_wp2_with fail
    refine i1.mono ?_
    clear i1
    rintro e w3 ⟨rfl, hbl⟩
    have A13 := hid (A12.out.below hbl A12.out.lt)
    have A23 := hid (A2.out.below hbl A2.out.lt)
    have B3 := hid (B2.out.trans (hbl.mono B2.out.size))
    have s1 := S1.out w3 A13.out
    clear hbl
    go_wp2_with fail
    refine s1.mono ?_
    clear s1
    rintro e w4 ⟨rfl, rfl⟩
    have i2 := I2.out w3 A23.out
    go_wp2_with fail
    refine i2.mono ?_
    clear i2
    rintro e w5 ⟨rfl, hbl⟩
    have A24 := hid (A23.out.below hbl A23.out.lt)
    have B4 := hid (B3.out.trans (hbl.mono B3.out.size))
    have s2 := S2.out w5 A24.out
    clear hbl
    go_wp2_with fail
    refine s2.mono ?_
    clear s2
    rintro e w6 ⟨rfl, rfl⟩
    go_wp2_with fail
    go_ret
    exact ⟨rfl, B4.out⟩

set_option maxRecDepth 20000 in
set_option maxHeartbeats 4000000 in
theorem rvInner40 (A : Option Addr) (n cap : Nat) (B : Nat → Nat) (z : Int) (hz0 : 0 ≤ z) (hz1 : z ≤ 255) (hz5 : z % 5 = 4) (hz4 : z % 4 = 0) (w : World) (hR : RdB w A n B) (hn : n ≤ 2147483647) :
    Calls Try.prog 5 #[.slice A n cap, .int .u8 z, .bool true] w fun e w' => e = .returned (.bool true) ∧ Below w.heap.size w w' := by
  have f1 : ∀ W, RdB W A n B → Calls Try.prog 13 #[.slice A n cap, .int .i64 5, .int .i64 2] W (FourAt 5 2 W) := fun W h => (rvFour A n cap B 5 2 W h hn (by decide) (by decide) (by decide)).mono fun _ _ h => h.at_
  have f2 : ∀ W, RdB W A n B → Calls Try.prog 13 #[.slice A n cap, .int .i64 10, .int .i64 7] W (FourAt 10 7 W) := fun W h => (rvFour A n cap B 10 7 W h hn (by decide) (by decide) (by decide)).mono fun _ _ h => h.at_
  have HB := hid fun (m : Nat) => below_drewN (Below.refl w.heap.size w) m
  have HR := hid hR
  have F1 := hid f1
  have F2 := hid f2
  have I1 := hid (fun g a b c d ha hb hc hd hs W hA => implRSS g a b c d 2 5 true (by decide) ha hb hc hd hs (by decide) (by decide) W hA)
  have S1 := hid (fun g a b c d ha hb hc hd h W hA => restSpec g a b c d 2 true ha hb hc hd h (by decide) W hA)
  have I2 := hid (fun g a b c d ha hb hc hd hs W hA => implRSS g a b c d 7 10 false (by decide) ha hb hc hd hs (by decide) (by decide) W hA)
  have S2 := hid (fun g a b c d ha hb hc hd h W hA => restSpec g a b c d 7 false ha hb hc hd h (by decide) W hA)
  clear f1 f2 hR
  have ix5 : ∀ w, (Instr.index 32 (.agg #[.int .i64 8, .int .i64 6, .int .i64 4, .int .i64 3, .int .i64 1]) (.int .u8 4)).run Try.prog w = .ok (.int .i64 1) w := fun _ => by kernel_rfl
  have ix4 : ∀ w, (Instr.index 33 (.agg #[.int .i64 2, .int .i64 4, .int .i64 6, .int .i64 8]) (.int .u8 0)).run Try.prog w = .ok (.int .i64 2) w := fun _ => by kernel_rfl
  go_enter Try.func5, Try.ntmps5
  go_wp2_with fail
  go_quiet (fail)
  go_wp2_with fail
  go_quiet (fail)
  go_wp2_with fail
  all_goals
    generalize hwd : w.drewN _ = W0
    have B0 := hid (show Below w.heap.size w W0 from by rw [← hwd]; exact HB.out _)
    have R0 : RdB W0 A n B := HR.out.below B0.out
    have HR0 := hid R0
    clear hwd
    refine (F1.out _ R0).mono ?_
    clear R0
    rintro e w1 ⟨g1, a, b, c, d, rfl, hA, ha, hb, hc, hd, hs, hbl⟩
    have P1 := hid (show 1 = 1 ∧ _ ∧ _ ∧ _ ∧ _ ∧ _ from ⟨rfl, ha, hb, hc, hd, hs⟩)
    have A1 := hid hA
    have R1 := hid (HR0.out.below hbl)
    have B1 := hid (B0.out.trans (hbl.mono B0.out.size))
    have f2 := F2.out w1 R1.out
    clear ha hb hc hd hs hA hbl
    go_wp2_with fail
    refine f2.mono ?_
    clear f2
    rintro e w2 ⟨g2, a2, b2, c2, d2, rfl, hA, ha, hb, hc, hd, hs, hbl⟩
    have P2 := hid (show 1 = 1 ∧ _ ∧ _ ∧ _ ∧ _ ∧ _ from ⟨rfl, ha, hb, hc, hd, hs⟩)
    have A2 := hid hA
    have A12 := hid (A1.out.below hbl A1.out.lt)
    have B2 := hid (B1.out.trans (hbl.mono B1.out.size))
    obtain ⟨_, p1, p2, p3, p4, p5⟩ := P1.out
    obtain ⟨_, q1, q2, q3, q4, q5⟩ := P2.out
    have i1 := I1.out g1 a b c d p1 p2 p3 p4 p5 w2 A12.out
    have s1 := fun W (h : Arr W g1 3 (four a b c d)) => S1.out g1 a b c d p1 p2 p3 p4 (by omega) W h
    have i2 := fun W (h : Arr W g2 3 (four a2 b2 c2 d2)) => I2.out g2 a2 b2 c2 d2 q1 q2 q3 q4 q5 W h
    have s2 := fun W (h : Arr W g2 3 (four a2 b2 c2 d2)) => S2.out g2 a2 b2 c2 d2 q1 q2 q3 q4 (by omega) W h
    clear ha hb hc hd hs hA hbl p1 p2 p3 p4 p5 q1 q2 q3 q4 q5 I1 I2 S1 S2
    generalize restVal _ [a, b, c, d] _ _ = v1 at *
    generalize restVal _ [a2, b2, c2, d2] _ _ = v2 at *
    have S1 := hid s1
    have I2 := hid i2
    have S2 := hid s2
    clear s1 i2 s2
    go_wp2_with fail
    refine i1.mono ?_
    clear i1
    rintro e w3 ⟨rfl, hbl⟩
    have A13 := hid (A12.out.below hbl A12.out.lt)
    have A23 := hid (A2.out.below hbl A2.out.lt)
    have B3 := hid (B2.out.trans (hbl.mono B2.out.size))
    have s1 := S1.out w3 A13.out
    clear hbl
    go_wp2_with fail
    refine s1.mono ?_
    clear s1
    rintro e w4 ⟨rfl, rfl⟩
    have i2 := I2.out w3 A23.out
    go_wp2_with fail
    refine i2.mono ?_
    clear i2
    rintro e w5 ⟨rfl, hbl⟩
    have A24 := hid (A23.out.below hbl A23.out.lt)
    have B4 := hid (B3.out.trans (hbl.mono B3.out.size))
    have s2 := S2.out w5 A24.out
    clear hbl
    go_wp2_with fail
    refine s2.mono ?_
    clear s2
    rintro e w6 ⟨rfl, rfl⟩
    go_wp2_with fail
    go_ret
    exact ⟨rfl, B4.out⟩

set_option maxRecDepth 20000 in
set_option maxHeartbeats 4000000 in
theorem rvInner41 (A : Option Addr) (n cap : Nat) (B : Nat → Nat) (z : Int) (hz0 : 0 ≤ z) (hz1 : z ≤ 255) (hz5 : z % 5 = 4) (hz4 : z % 4 = 1) (w : World) (hR : RdB w A n B) (hn : n ≤ 2147483647) :
    Calls Try.prog 5 #[.slice A n cap, .int .u8 z, .bool true] w fun e w' => e = .returned (.bool true) ∧ Below w.heap.size w w' := by
  have f1 : ∀ W, RdB W A n B → Calls Try.prog 13 #[.slice A n cap, .int .i64 7, .int .i64 4] W (FourAt 7 4 W) := fun W h => (rvFour A n cap B 7 4 W h hn (by decide) (by decide) (by decide)).mono fun _ _ h => h.at_
  have f2 : ∀ W, RdB W A n B → Calls Try.prog 13 #[.slice A n cap, .int .i64 8, .int .i64 5] W (FourAt 8 5 W) := fun W h => (rvFour A n cap B 8 5 W h hn (by decide) (by decide) (by decide)).mono fun _ _ h => h.at_
  have HB := hid fun (m : Nat) => below_drewN (Below.refl w.heap.size w) m
  have HR := hid hR
  have F1 := hid f1
  have F2 := hid f2
  have I1 := hid (fun g a b c d ha hb hc hd hs W hA => implRSS g a b c d 4 7 true (by decide) ha hb hc hd hs (by decide) (by decide) W hA)
  have S1 := hid (fun g a b c d ha hb hc hd h W hA => restSpec g a b c d 4 true ha hb hc hd h (by decide) W hA)
  have I2 := hid (fun g a b c d ha hb hc hd hs W hA => implRSS g a b c d 5 8 false (by decide) ha hb hc hd hs (by decide) (by decide) W hA)
  have S2 := hid (fun g a b c d ha hb hc hd h W hA => restSpec g a b c d 5 false ha hb hc hd h (by decide) W hA)
  clear f1 f2 hR
  have ix5 : ∀ w, (Instr.index 32 (.agg #[.int .i64 8, .int .i64 6, .int .i64 4, .int .i64 3, .int .i64 1]) (.int .u8 4)).run Try.prog w = .ok (.int .i64 1) w := fun _ => by kernel_rfl
  have ix4 : ∀ w, (Instr.index 33 (.agg #[.int .i64 2, .int .i64 4, .int .i64 6, .int .i64 8]) (.int .u8 1)).run Try.prog w = .ok (.int .i64 4) w := fun _ => by kernel_rfl
  go_enter Try.func5, Try.ntmps5
  go_wp2_with fail
  go_quiet (fail)
  go_wp2_with fail
  go_quiet (fail)
  go_wp2_with fail
  all_goals
    generalize hwd : w.drewN _ = W0
    have B0 := hid (show Below w.heap.size w W0 from by rw [← hwd]; exact HB.out _)
    have R0 : RdB W0 A n B := HR.out.below B0.out
    have HR0 := hid R0
    clear hwd
    refine (F1.out _ R0).mono ?_
    clear R0
    rintro e w1 ⟨g1, a, b, c, d, rfl, hA, ha, hb, hc, hd, hs, hbl⟩
    have P1 := hid (show 1 = 1 ∧ _ ∧ _ ∧ _ ∧ _ ∧ _ from ⟨rfl, ha, hb, hc, hd, hs⟩)
    have A1 := hid hA
    have R1 := hid (HR0.out.below hbl)
    have B1 := hid (B0.out.trans (hbl.mono B0.out.size))
    have f2 := F2.out w1 R1.out
    clear ha hb hc hd hs hA hbl
    go_wp2_with fail
    refine f2.mono ?_
    clear f2
    rintro e w2 ⟨g2, a2, b2, c2, d2, rfl, hA, ha, hb, hc, hd, hs, hbl⟩
    have P2 := hid (show 1 = 1 ∧ _ ∧ _ ∧ _ ∧ _ ∧ _ from ⟨rfl, ha, hb, hc, hd, hs⟩)
    have A2 := hid hA
    have A12 := hid (A1.out.below hbl A1.out.lt)
    have B2 := hid (B1.out.trans (hbl.mono B1.out.size))
    obtain ⟨_, p1, p2, p3, p4, p5⟩ := P1.out
    obtain ⟨_, q1, q2, q3, q4, q5⟩ := P2.out
    have i1 := I1.out g1 a b c d p1 p2 p3 p4 p5 w2 A12.out
    have s1 := fun W (h : Arr W g1 3 (four a b c d)) => S1.out g1 a b c d p1 p2 p3 p4 (by omega) W h
    have i2 := fun W (h : Arr W g2 3 (four a2 b2 c2 d2)) => I2.out g2 a2 b2 c2 d2 q1 q2 q3 q4 q5 W h
    have s2 := fun W (h : Arr W g2 3 (four a2 b2 c2 d2)) => S2.out g2 a2 b2 c2 d2 q1 q2 q3 q4 (by omega) W h
    clear ha hb hc hd hs hA hbl p1 p2 p3 p4 p5 q1 q2 q3 q4 q5 I1 I2 S1 S2
    generalize restVal _ [a, b, c, d] _ _ = v1 at *
    generalize restVal _ [a2, b2, c2, d2] _ _ = v2 at *
    have S1 := hid s1
    have I2 := hid i2
    have S2 := hid s2
    clear s1 i2 s2
    go_wp2_with fail
    refine i1.mono ?_
    clear i1
    rintro e w3 ⟨rfl, hbl⟩
    have A13 := hid (A12.out.below hbl A12.out.lt)
    have A23 := hid (A2.out.below hbl A2.out.lt)
    have B3 := hid (B2.out.trans (hbl.mono B2.out.size))
    have s1 := S1.out w3 A13.out
    clear hbl
    go_wp2_with fail
    refine s1.mono ?_
    clear s1
    rintro e w4 ⟨rfl, rfl⟩
    have i2 := I2.out w3 A23.out
    go_wp2_with fail
    refine i2.mono ?_
    clear i2
    rintro e w5 ⟨rfl, hbl⟩
    have A24 := hid (A23.out.below hbl A23.out.lt)
    have B4 := hid (B3.out.trans (hbl.mono B3.out.size))
    have s2 := S2.out w5 A24.out
    clear hbl
    go_wp2_with fail
    refine s2.mono ?_
    clear s2
    rintro e w6 ⟨rfl, rfl⟩
    go_wp2_with fail
    go_ret
    exact ⟨rfl, B4.out⟩

set_option maxRecDepth 20000 in
set_option maxHeartbeats 4000000 in
theorem rvInner42 (A : Option Addr) (n cap : Nat) (B : Nat → Nat) (z : Int) (hz0 : 0 ≤ z) (hz1 : z ≤ 255) (hz5 : z % 5 = 4) (hz4 : z % 4 = 2) (w : World) (hR : RdB w A n B) (hn : n ≤ 2147483647) :
    Calls Try.prog 5 #[.slice A n cap, .int .u8 z, .bool true] w fun e w' => e = .returned (.bool true) ∧ Below w.heap.size w w' := by
  have f1 : ∀ W, RdB W A n B → Calls Try.prog 13 #[.slice A n cap, .int .i64 9, .int .i64 6] W (FourAt 9 6 W) := fun W h => (rvFour A n cap B 9 6 W h hn (by decide) (by decide) (by decide)).mono fun _ _ h => h.at_
  have f2 : ∀ W, RdB W A n B → Calls Try.prog 13 #[.slice A n cap, .int .i64 6, .int .i64 3] W (FourAt 6 3 W) := fun W h => (rvFour A n cap B 6 3 W h hn (by decide) (by decide) (by decide)).mono fun _ _ h => h.at_
  have HB := hid fun (m : Nat) => below_drewN (Below.refl w.heap.size w) m
  have HR := hid hR
  have F1 := hid f1
  have F2 := hid f2
  have I1 := hid (fun g a b c d ha hb hc hd hs W hA => implRSS g a b c d 6 9 true (by decide) ha hb hc hd hs (by decide) (by decide) W hA)
  have S1 := hid (fun g a b c d ha hb hc hd h W hA => restSpec g a b c d 6 true ha hb hc hd h (by decide) W hA)
  have I2 := hid (fun g a b c d ha hb hc hd hs W hA => implRSS g a b c d 3 6 false (by decide) ha hb hc hd hs (by decide) (by decide) W hA)
  have S2 := hid (fun g a b c d ha hb hc hd h W hA => restSpec g a b c d 3 false ha hb hc hd h (by decide) W hA)
  clear f1 f2 hR
  have ix5 : ∀ w, (Instr.index 32 (.agg #[.int .i64 8, .int .i64 6, .int .i64 4, .int .i64 3, .int .i64 1]) (.int .u8 4)).run Try.prog w = .ok (.int .i64 1) w := fun _ => by kernel_rfl
  have ix4 : ∀ w, (Instr.index 33 (.agg #[.int .i64 2, .int .i64 4, .int .i64 6, .int .i64 8]) (.int .u8 2)).run Try.prog w = .ok (.int .i64 6) w := fun _ => by kernel_rfl
  go_enter Try.func5, Try.ntmps5
  go_wp2_with fail
  go_quiet (fail)
  go_wp2_with fail
  go_quiet (fail)
  go_wp2_with fail
  all_goals
    generalize hwd : w.drewN _ = W0
    have B0 := hid (show Below w.heap.size w W0 from by rw [← hwd]; exact HB.out _)
    have R0 : RdB W0 A n B := HR.out.below B0.out
    have HR0 := hid R0
    clear hwd
    refine (F1.out _ R0).mono ?_
    clear R0
    rintro e w1 ⟨g1, a, b, c, d, rfl, hA, ha, hb, hc, hd, hs, hbl⟩
    have P1 := hid (show 1 = 1 ∧ _ ∧ _ ∧ _ ∧ _ ∧ _ from ⟨rfl, ha, hb, hc, hd, hs⟩)
    have A1 := hid hA
    have R1 := hid (HR0.out.below hbl)
    have B1 := hid (B0.out.trans (hbl.mono B0.out.size))
    have f2 := F2.out w1 R1.out
    clear ha hb hc hd hs hA hbl
    go_wp2_with fail
    refine f2.mono ?_
    clear f2
    rintro e w2 ⟨g2, a2, b2, c2, d2, rfl, hA, ha, hb, hc, hd, hs, hbl⟩
    have P2 := hid (show 1 = 1 ∧ _ ∧ _ ∧ _ ∧ _ ∧ _ from ⟨rfl, ha, hb, hc, hd, hs⟩)
    have A2 := hid hA
    have A12 := hid (A1.out.below hbl A1.out.lt)
    have B2 := hid (B1.out.trans (hbl.mono B1.out.size))
    obtain ⟨_, p1, p2, p3, p4, p5⟩ := P1.out
    obtain ⟨_, q1, q2, q3, q4, q5⟩ := P2.out
    have i1 := I1.out g1 a b c d p1 p2 p3 p4 p5 w2 A12.out
    have s1 := fun W (h : Arr W g1 3 (four a b c d)) => S1.out g1 a b c d p1 p2 p3 p4 (by omega) W h
    have i2 := fun W (h : Arr W g2 3 (four a2 b2 c2 d2)) => I2.out g2 a2 b2 c2 d2 q1 q2 q3 q4 q5 W h
    have s2 := fun W (h : Arr W g2 3 (four a2 b2 c2 d2)) => S2.out g2 a2 b2 c2 d2 q1 q2 q3 q4 (by omega) W h
    clear ha hb hc hd hs hA hbl p1 p2 p3 p4 p5 q1 q2 q3 q4 q5 I1 I2 S1 S2
    generalize restVal _ [a, b, c, d] _ _ = v1 at *
    generalize restVal _ [a2, b2, c2, d2] _ _ = v2 at *
    have S1 := hid s1
    have I2 := hid i2
    have S2 := hid s2
    clear s1 i2 s2
    go_wp2_with fail
    refine i1.mono ?_
    clear i1
    rintro e w3 ⟨rfl, hbl⟩
    have A13 := hid (A12.out.below hbl A12.out.lt)
    have A23 := hid (A2.out.below hbl A2.out.lt)
    have B3 := hid (B2.out.trans (hbl.mono B2.out.size))
    have s1 := S1.out w3 A13.out
    clear hbl
    go_wp2_with fail
    refine s1.mono ?_
    clear s1
    rintro e w4 ⟨rfl, rfl⟩
    have i2 := I2.out w3 A23.out
    go_wp2_with fail
    refine i2.mono ?_
    clear i2
    rintro e w5 ⟨rfl, hbl⟩
    have A24 := hid (A23.out.below hbl A23.out.lt)
    have B4 := hid (B3.out.trans (hbl.mono B3.out.size))
    have s2 := S2.out w5 A24.out
    clear hbl
    go_wp2_with fail
    refine s2.mono ?_
    clear s2
    rintro e w6 ⟨rfl, rfl⟩
    go_wp2_with fail
    go_ret
    exact ⟨rfl, B4.out⟩

set_option maxRecDepth 20000 in
set_option maxHeartbeats 4000000 in
theorem rvInner43 (A : Option Addr) (n cap : Nat) (B : Nat → Nat) (z : Int) (hz0 : 0 ≤ z) (hz1 : z ≤ 255) (hz5 : z % 5 = 4) (hz4 : z % 4 = 3) (w : World) (hR : RdB w A n B) (hn : n ≤ 2147483647) :
    Calls Try.prog 5 #[.slice A n cap, .int .u8 z, .bool true] w fun e w' => e = .returned (.bool true) ∧ Below w.heap.size w w' := by
  have f1 : ∀ W, RdB W A n B → Calls Try.prog 13 #[.slice A n cap, .int .i64 11, .int .i64 8] W (FourAt 11 8 W) := fun W h => (rvFour A n cap B 11 8 W h hn (by decide) (by decide) (by decide)).mono fun _ _ h => h.at_
  have f2 : ∀ W, RdB W A n B → Calls Try.prog 13 #[.slice A n cap, .int .i64 4, .int .i64 1] W (FourAt 4 1 W) := fun W h => (rvFour A n cap B 4 1 W h hn (by decide) (by decide) (by decide)).mono fun _ _ h => h.at_
  have HB := hid fun (m : Nat) => below_drewN (Below.refl w.heap.size w) m
  have HR := hid hR
  have F1 := hid f1
  have F2 := hid f2
  have I1 := hid (fun g a b c d ha hb hc hd hs W hA => implRSS g a b c d 8 11 true (by decide) ha hb hc hd hs (by decide) (by decide) W hA)
  have S1 := hid (fun g a b c d ha hb hc hd h W hA => restSpec g a b c d 8 true ha hb hc hd h (by decide) W hA)
  have I2 := hid (fun g a b c d ha hb hc hd hs W hA => implRSS g a b c d 1 4 false (by decide) ha hb hc hd hs (by decide) (by decide) W hA)
  have S2 := hid (fun g a b c d ha hb hc hd h W hA => restSpec g a b c d 1 false ha hb hc hd h (by decide) W hA)
  clear f1 f2 hR
  have ix5 : ∀ w, (Instr.index 32 (.agg #[.int .i64 8, .int .i64 6, .int .i64 4, .int .i64 3, .int .i64 1]) (.int .u8 4)).run Try.prog w = .ok (.int .i64 1) w := fun _ => by kernel_rfl
  have ix4 : ∀ w, (Instr.index 33 (.agg #[.int .i64 2, .int .i64 4, .int .i64 6, .int .i64 8]) (.int .u8 3)).run Try.prog w = .ok (.int .i64 8) w := fun _ => by kernel_rfl
  go_enter Try.func5, Try.ntmps5
  go_wp2_with fail
  go_quiet (fail)
  go_wp2_with fail
  go_quiet (fail)
  go_wp2_with fail
  all_goals
    generalize hwd : w.drewN _ = W0
    have B0 := hid (show Below w.heap.size w W0 from by rw [← hwd]; exact HB.out _)
    have R0 : RdB W0 A n B := HR.out.below B0.out
    have HR0 := hid R0
    clear hwd
    refine (F1.out _ R0).mono ?_
    clear R0
    rintro e w1 ⟨g1, a, b, c, d, rfl, hA, ha, hb, hc, hd, hs, hbl⟩
    have P1 := hid (show 1 = 1 ∧ _ ∧ _ ∧ _ ∧ _ ∧ _ from ⟨rfl, ha, hb, hc, hd, hs⟩)
    have A1 := hid hA
    have R1 := hid (HR0.out.below hbl)
    have B1 := hid (B0.out.trans (hbl.mono B0.out.size))
    have f2 := F2.out w1 R1.out
    clear ha hb hc hd hs hA hbl
    go_wp2_with fail
    refine f2.mono ?_
    clear f2
    rintro e w2 ⟨g2, a2, b2, c2, d2, rfl, hA, ha, hb, hc, hd, hs, hbl⟩
    have P2 := hid (show 1 = 1 ∧ _ ∧ _ ∧ _ ∧ _ ∧ _ from ⟨rfl, ha, hb, hc, hd, hs⟩)
    have A2 := hid hA
    have A12 := hid (A1.out.below hbl A1.out.lt)
    have B2 := hid (B1.out.trans (hbl.mono B1.out.size))
    obtain ⟨_, p1, p2, p3, p4, p5⟩ := P1.out
    obtain ⟨_, q1, q2, q3, q4, q5⟩ := P2.out
    have i1 := I1.out g1 a b c d p1 p2 p3 p4 p5 w2 A12.out
    have s1 := fun W (h : Arr W g1 3 (four a b c d)) => S1.out g1 a b c d p1 p2 p3 p4 (by omega) W h
    have i2 := fun W (h : Arr W g2 3 (four a2 b2 c2 d2)) => I2.out g2 a2 b2 c2 d2 q1 q2 q3 q4 q5 W h
    have s2 := fun W (h : Arr W g2 3 (four a2 b2 c2 d2)) => S2.out g2 a2 b2 c2 d2 q1 q2 q3 q4 (by omega) W h
    clear ha hb hc hd hs hA hbl p1 p2 p3 p4 p5 q1 q2 q3 q4 q5 I1 I2 S1 S2
    generalize restVal _ [a, b, c, d] _ _ = v1 at *
    generalize restVal _ [a2, b2, c2, d2] _ _ = v2 at *
    have S1 := hid s1
    have I2 := hid i2
    have S2 := hid s2
    clear s1 i2 s2
    go_wp2_with fail
    refine i1.mono ?_
    clear i1
    rintro e w3 ⟨rfl, hbl⟩
    have A13 := hid (A12.out.below hbl A12.out.lt)
    have A23 := hid (A2.out.below hbl A2.out.lt)
    have B3 := hid (B2.out.trans (hbl.mono B2.out.size))
    have s1 := S1.out w3 A13.out
    clear hbl
    go_wp2_with fail
    refine s1.mono ?_
    clear s1
    rintro e w4 ⟨rfl, rfl⟩
    have i2 := I2.out w3 A23.out
    go_wp2_with fail
    refine i2.mono ?_
    clear i2
    rintro e w5 ⟨rfl, hbl⟩
    have A24 := hid (A23.out.below hbl A23.out.lt)
    have B4 := hid (B3.out.trans (hbl.mono B3.out.size))
    have s2 := S2.out w5 A24.out
    clear hbl
    go_wp2_with fail
    refine s2.mono ?_
    clear s2
    rintro e w6 ⟨rfl, rfl⟩
    go_wp2_with fail
    go_ret
    exact ⟨rfl, B4.out⟩

set_option maxRecDepth 20000 in
theorem rvLong (A : Option Addr) (n cap : Nat) (z : Int) (b : Bool) (w : World) (hn : 2147483647 < n) :
    Calls Try.prog 5 #[.slice A n cap, .int .u8 z, .bool b] w fun e w' => e = .returned (.bool true) ∧ Below w.heap.size w w' := by
  have hn' : (2147483647 : Int) < (n : Int) := by omega
  have HB := hid (Below.refl w.heap.size w)
  go_enter Try.func5, Try.ntmps5
  go_wp2_with fail
  go_ret
  exact ⟨rfl, HB.out⟩
theorem FnRVCharacter_walk (w : World) (A : Option Addr) (len cap : Nat) (zs : List Int) (hS : SlIn w A len cap (zs.map (Value.int .u8))) (hwf : ∀ n ∈ zs, (Lit.int .u8 n).wf = true) (z : Int) (hz : (Lit.int .u8 z).wf = true) (b : Bool) :
    Calls Try.prog 5 #[.slice A len cap, .int .u8 z, .bool b] w fun e w' => e = .returned (.bool true) ∧ Below w.heap.size w w' := by
  by_cases hn : 2147483647 < len
  · exact rvLong A len cap z b w hn
  have hn2 : len ≤ 2147483647 := by omega
  obtain ⟨h0, h1⟩ := wf_u8 hz
  have hR := rdB_of hS hwf
  have h5 : z % 5 = 0 ∨ z % 5 = 1 ∨ z % 5 = 2 ∨ z % 5 = 3 ∨ z % 5 = 4 := by omega
  have h4 : z % 4 = 0 ∨ z % 4 = 1 ∨ z % 4 = 2 ∨ z % 4 = 3 := by omega
  cases b
  · rcases h5 with h | h | h | h | h
    · exact rvOuter0 A len cap _ z h0 h1 h w hR hn2
    · exact rvOuter1 A len cap _ z h0 h1 h w hR hn2
    · exact rvOuter2 A len cap _ z h0 h1 h w hR hn2
    · exact rvOuter3 A len cap _ z h0 h1 h w hR hn2
    · exact rvOuter4 A len cap _ z h0 h1 h w hR hn2
  · rcases h5 with h | h | h | h | h <;> rcases h4 with g | g | g | g
    · exact rvInner00 A len cap _ z h0 h1 h g w hR hn2
    · exact rvInner01 A len cap _ z h0 h1 h g w hR hn2
    · exact rvInner02 A len cap _ z h0 h1 h g w hR hn2
    · exact rvInner03 A len cap _ z h0 h1 h g w hR hn2
    · exact rvInner10 A len cap _ z h0 h1 h g w hR hn2
    · exact rvInner11 A len cap _ z h0 h1 h g w hR hn2
    · exact rvInner12 A len cap _ z h0 h1 h g w hR hn2
    · exact rvInner13 A len cap _ z h0 h1 h g w hR hn2
    · exact rvInner20 A len cap _ z h0 h1 h g w hR hn2
    · exact rvInner21 A len cap _ z h0 h1 h g w hR hn2
    · exact rvInner22 A len cap _ z h0 h1 h g w hR hn2
    · exact rvInner23 A len cap _ z h0 h1 h g w hR hn2
    · exact rvInner30 A len cap _ z h0 h1 h g w hR hn2
    · exact rvInner31 A len cap _ z h0 h1 h g w hR hn2
    · exact rvInner32 A len cap _ z h0 h1 h g w hR hn2
    · exact rvInner33 A len cap _ z h0 h1 h g w hR hn2
    · exact rvInner40 A len cap _ z h0 h1 h g w hR hn2
    · exact rvInner41 A len cap _ z h0 h1 h g w hR hn2
    · exact rvInner42 A len cap _ z h0 h1 h g w hR hn2
    · exact rvInner43 A len cap _ z h0 h1 h g w hR hn2
end Go.Proofs.Ytifegijnhlbedaa
