/- QR codes: laws.qrWrong. Printed by gen_wrong.py. -/
import Derived.Test.YtpffffhgmhpkiaaQrM
import Derived.StillTailTactics
namespace Go.Proofs.Ytpffffhgmhpkiaa
open Go.RowKit
set_option linter.unusedVariables false
set_option linter.unusedSimpArgs false

/-- The twelve numbers of the wrong bits. -/
def wrL (z : Nat → Nat → Nat) : List Value := [.int .u8 (z 0 0 : Nat), .int .u8 (z 0 1 : Nat), .int .u8 (z 0 2 : Nat), .int .u8 (z 1 0 : Nat), .int .u8 (z 1 1 : Nat), .int .u8 (z 1 2 : Nat), .int .u8 (z 2 0 : Nat), .int .u8 (z 2 1 : Nat), .int .u8 (z 2 2 : Nat), .int .u8 (z 3 0 : Nat), .int .u8 (z 3 1 : Nat), .int .u8 (z 3 2 : Nat)]
def WrongOut (v n F V G : Nat) (gs : Nat → Nat) (W : Nat → Nat → Prop) (w : World) (e : Ending) (w' : World) : Prop :=
  ∃ R, e = .returned (.tuple #[]) ∧ Rows w' G n gs R ∧ Near v F V W R ∧ Below G w w'
/-- The state in the middle. -/
structure WrAt (v n F V G : Nat) (gs : Nat → Nat) (W : Nat → Nat → Prop) (z : Nat → Nat → Nat) (w wr : World) (R : Nat → Nat → Bool) : Prop where
  rows : Rows wr G n gs R
  near : Near v F V W R
  arr : Arr wr w.heap.size 37 (wrL z)
  bel : Below G w wr
theorem WrAt.drew {v n F V G : Nat} {gs : Nat → Nat} {W : Nat → Nat → Prop} {z : Nat → Nat → Nat} {w wr : World} {R : Nat → Nat → Bool} (h : WrAt v n F V G gs W z w wr R) : WrAt v n F V G gs W z w wr.drew R :=
  ⟨h.rows.drew, h.near, h.arr, h.bel.drew⟩
theorem WrAt.set {v n F V G : Nat} {gs : Nat → Nat} {W : Nat → Nat → Prop} {z : Nat → Nat → Nat} {w wr : World} {R : Nat → Nat → Bool} (h : WrAt v n F V G gs W z w wr R) (hgs : ∀ r, r < n → gs r < w.heap.size) (r c : Nat) (b : Bool) (hr : r < n) (hc : c < n) (hN : Near v F V W (set2 R r c b)) :
    WrAt v n F V G gs W z w (wr.setCell ⟨gs r, c, none⟩ (.bool b)) (set2 R r c b) :=
  ⟨h.rows.set r c b hr, hN, h.arr.far (by have := hgs r hr; simp; omega) _, h.bel.setCell (by exact Nat.le_of_lt (h.rows.cells r c hr hc).2.2.2.1) _⟩

set_option maxRecDepth 20000 in
set_option maxHeartbeats 16000000 in
theorem wrongQ (v n F V G c0 : Nat) (gs : Nat → Nat) (R : Nat → Nat → Bool) (z : Nat → Nat → Nat) (W : Nat → Nat → Prop) (w : World) (h1 : 1 ≤ v) (h2 : v ≤ 40) (hn : n = 17 + 4 * v) (hR : Rows w G n gs R) (hN : Near v F V W R)
    (hW : ∀ i, i < 4 → ∀ j, j < 3 → W i (z i j) ∧ z i j < 256) :
    Calls Try.prog 18 #[.slice (some ⟨G, 0, none⟩) n c0, .int .i64 v, .agg (wrL z).toArray] w (WrongOut v n F V G gs W w) := by
  have hn177 : n ≤ 177 := by omega
  have hn21 : 21 ≤ n := by omega
  obtain ⟨hG1, hG2⟩ := Rows.bounds hR
  have HGS := hid hG2
  have S1 := hid (fun (R : Nat → Nat → Bool) (h : Near v F V W R) x (hx : x < 6) (hW : W 0 x) b => show Near v F V W (set2 R x 8 b) from h.w1 h1 x hx hW b)
  have S2 := hid (fun (R : Nat → Nat → Bool) (h : Near v F V W R) x (hx : x < 8) (hW : W 1 x) y (hy : y = n - 1 - x) b => show Near v F V W (set2 R 8 y b) from by rw [hy, hn]; exact h.w2 h1 x hx hW b)
  have S3 := hid (fun (R : Nat → Nat → Bool) (h : Near v F V W R) (h7 : 7 ≤ v) x (hx : x < 18) (hW : W 2 x) a (ha : a = x / 3) y (hy : y = n - 11 + x % 3) b => show Near v F V W (set2 R a y b) from by rw [ha, hy, hn]; exact h.w3 h7 x hx hW b)
  have S4 := hid (fun (R : Nat → Nat → Bool) (h : Near v F V W R) (h7 : 7 ≤ v) x (hx : x < 18) a (ha : a = x / 3) y (hy : y = n - 11 + x % 3) b => show Near v F V W (set2 R y a b) from by rw [ha, hy, hn]; exact h.w4 h7 x hx b)
  have HW := hid hW
  have ix0 : ∀ (a b c : Int) (w : World), (Instr.index 36 (.agg #[.int .u8 a, .int .u8 b, .int .u8 c]) (.int .i64 0)).run Try.prog w = .ok (.int .u8 a) w := fun _ _ _ _ => by kernel_rfl
  have ix1 : ∀ (a b c : Int) (w : World), (Instr.index 36 (.agg #[.int .u8 a, .int .u8 b, .int .u8 c]) (.int .i64 1)).run Try.prog w = .ok (.int .u8 b) w := fun _ _ _ _ => by kernel_rfl
  have ix2 : ∀ (a b c : Int) (w : World), (Instr.index 36 (.agg #[.int .u8 a, .int .u8 b, .int .u8 c]) (.int .i64 2)).run Try.prog w = .ok (.int .u8 c) w := fun _ _ _ _ => by kernel_rfl
  have IX := hid (fun (i j : Nat) (hj : j < 3) (w : World) => show (Instr.index 36 (.agg #[.int .u8 (z i 0 : Nat), .int .u8 (z i 1 : Nat), .int .u8 (z i 2 : Nat)]) (.int .i64 (j : Nat))).run Try.prog w = .ok (.int .u8 (z i j : Nat)) w from by
    obtain rfl | rfl | rfl : j = 0 ∨ j = 1 ∨ j = 2 := by omega
    · exact ix0 _ _ _ _
    · exact ix1 _ _ _ _
    · exact ix2 _ _ _ _)
  clear ix0 ix1 ix2
  have HS := hid (show WrAt v n F V G gs W z w (w.alloc (.cells (wrL z).toArray 37)) R from ⟨hR.alloc _, hN, by have := Arr.of_new w 37 (wrL z).toArray; rwa [List.toList_toArray] at this, (Below.refl _ _).alloc (Nat.le_of_lt hG1) _⟩)
  unfold wrL at HS
  clear hR hN hW hG2 hn
  unfold wrL
  go_enter Try.func18, Try.ntmps18
  go_wp2_with fail
  go_loopw [13] (fun iv wr => ∃ (k : Nat) (R2 : Nat → Nat → Bool), k ≤ 4 ∧ iv = .int .i64 (k : Nat) ∧ Hid (WrAt v n F V G gs W z w wr R2)) (fun iv _ => 4 - (intOf iv).toNat)
  case atStart => exact ⟨0, R, by omega, rfl, HS⟩
  case round =>
    clear HS
    obtain ⟨k, R2, hk, rfl, HS⟩ := hrel
    by_cases hk4 : k < 4
    · obtain rfl | rfl | rfl | rfl : k = 0 ∨ k = 1 ∨ k = 2 ∨ k = 3 := by omega
      · have q0 := HS.out.arr.cell? 0
        have q1 := HS.out.arr.cell? 1
        have q2 := HS.out.arr.cell? 2
        simp only [wrL, List.getElem?_cons_zero, List.getElem?_cons_succ] at q0 q1 q2
        go_wp2_with fail
        clear q0 q1 q2
        go_loopw [19] (fun jv wr => ∃ (j : Nat) (R2 : Nat → Nat → Bool), j ≤ 3 ∧ jv = .int .i64 (j : Nat) ∧ Hid (WrAt v n F V G gs W z w wr R2)) (fun jv _ => 3 - (intOf jv).toNat)
        case atStart => exact ⟨0, R2, by omega, rfl, HS⟩
        case round =>
          clear HS
          obtain ⟨j, R3, hj, rfl, HS⟩ := hrel
          by_cases hj3 : j < 3
          · have hj3' : (j : Int) < 3 := by omega
            obtain ⟨hWx, hx⟩ := HW.out 0 (by omega) j hj3
            have HWx := hid hWx
            have hix := IX.out 0 j hj3
            clear hWx
            generalize z 0 j = x at *
            by_cases h6 : x < 6
            · have h6' : (x : Int) < 6 := by omega
              obtain ⟨x1, x2, x3, x4, x5⟩ := HS.out.rows.cells x 8 (by omega) (by omega)
              have HN := hid (S1.out R3 HS.out.near x h6 HWx.out (!R3 x 8))
              go_wp2_with fail
              have b1 : x < n := by omega
              have b2 : 8 < n := by omega
              have b3 : ((x : Nat) : Int) < (n : Int) := by omega
              have b4 : ((8 : Nat) : Int) < (n : Int) := by omega
              have b5 : (0 : Int) ≤ ((x : Nat) : Int) := by omega
              have b6 : (0 : Int) ≤ ((8 : Nat) : Int) := by omega
              have b7 : (8 : Int) < (n : Int) := by omega
              have z1 := x1; have z2 := x2; have z3 := x3; have z5 := x5
              change wr.drew.cell? _ = _ at z1
              change wr.drew.cell? _ = _ at z2
              change wr.drew.frozen? _ = _ at z3
              change _ < wr.drew.heap.size at z5
              have HSD := hid HS.out.drew
              refine wp_region_still_tail 12 (by kernel_rfl) (by kernel_rfl) ?_
              change wpStill _ _ wr.drew (fun a' => wpList _ _ _ _ a' wr.drew) _ _
              clear x1 x2 x3 x5 HS
              generalize wr.drew = w2 at *
              simp only [List.take_succ_cons, List.take_zero, List.drop_succ_cons, List.drop_zero]
              repeat still_step
              rw [wpStill]
              show wpList _ _ _ _ _ _
              go_wp2_with fail
              go_roundw
              case rel =>
                have HT := hid (HSD.out.set HGS.out x 8 (!R3 x 8) (by omega) (by omega) HN.out)
                first | exact ⟨j + 1, _, by omega, by go_num, HT⟩ | ((repeat apply Exists.intro); exact ⟨⟨j + 1, _, by omega, rfl, HT⟩, rfl⟩)
              case measure => first | (simp [intOf]; done) | (simp [intOf]; omega)
            · have h6' : ¬ (x : Int) < 6 := by omega
              go_wp2_with fail
              go_roundw
              case rel => first | exact ⟨j + 1, R3, by omega, by go_num, HS⟩ | ((repeat apply Exists.intro); exact ⟨⟨j + 1, R3, by omega, rfl, HS⟩, rfl⟩)
              case measure => first | (simp [intOf]; done) | (simp [intOf]; omega)
          · obtain rfl : j = 3 := by omega
            go_wp2_with fail
            go_roundw
            case rel => first | exact ⟨1, R3, by omega, by go_num, HS⟩ | ((repeat apply Exists.intro); exact ⟨⟨1, R3, by omega, rfl, HS⟩, rfl⟩)
            case measure => simp [intOf]
      · have q0 := HS.out.arr.cell? 3
        have q1 := HS.out.arr.cell? 4
        have q2 := HS.out.arr.cell? 5
        simp only [wrL, List.getElem?_cons_zero, List.getElem?_cons_succ] at q0 q1 q2
        go_wp2_with fail
        clear q0 q1 q2
        go_loopw [19] (fun jv wr => ∃ (j : Nat) (R2 : Nat → Nat → Bool), j ≤ 3 ∧ jv = .int .i64 (j : Nat) ∧ Hid (WrAt v n F V G gs W z w wr R2)) (fun jv _ => 3 - (intOf jv).toNat)
        case atStart => exact ⟨0, R2, by omega, rfl, HS⟩
        case round =>
          clear HS
          obtain ⟨j, R3, hj, rfl, HS⟩ := hrel
          by_cases hj3 : j < 3
          · have hj3' : (j : Int) < 3 := by omega
            obtain ⟨hWx, hx⟩ := HW.out 1 (by omega) j hj3
            have HWx := hid hWx
            have hix := IX.out 1 j hj3
            clear hWx
            generalize z 1 j = x at *
            by_cases h6 : x < 8
            · have h6' : (x : Int) < 8 := by omega
              obtain ⟨y, hy⟩ : ∃ y, y = n - 1 - x := ⟨_, rfl⟩
              have hy' : (n : Int) - 1 - (x : Int) = (y : Int) := by omega
              have g1 : IntKind.i64.wrap ((n : Int) - 1) = (n : Int) - 1 := IntWalk.i64_in _ ⟨by omega, by omega⟩
              have g2 : IntKind.i64.wrap (y : Int) = (y : Int) := IntWalk.i64_in _ ⟨by omega, by omega⟩
              obtain ⟨x1, x2, x3, x4, x5⟩ := HS.out.rows.cells 8 y (by omega) (by omega)
              have hyn : y < n := by omega
              have HN := hid (S2.out R3 HS.out.near x h6 HWx.out y hy (!R3 8 y))
              clear hy
              go_wp2_with fail
              have b1 : 8 < n := by omega
              have b2 : y < n := by omega
              have b3 : ((8 : Nat) : Int) < (n : Int) := by omega
              have b4 : ((y : Nat) : Int) < (n : Int) := by omega
              have b5 : (0 : Int) ≤ ((8 : Nat) : Int) := by omega
              have b6 : (0 : Int) ≤ ((y : Nat) : Int) := by omega
              have b7 : (8 : Int) < (n : Int) := by omega
              have z1 := x1; have z2 := x2; have z3 := x3; have z5 := x5
              change wr.drew.cell? _ = _ at z1
              change wr.drew.cell? _ = _ at z2
              change wr.drew.frozen? _ = _ at z3
              change _ < wr.drew.heap.size at z5
              have HSD := hid HS.out.drew
              refine wp_region_still_tail 18 (by kernel_rfl) (by kernel_rfl) ?_
              change wpStill _ _ wr.drew (fun a' => wpList _ _ _ _ a' wr.drew) _ _
              clear x1 x2 x3 x5 HS
              generalize wr.drew = w2 at *
              simp only [List.take_succ_cons, List.take_zero, List.drop_succ_cons, List.drop_zero]
              repeat still_step
              rw [wpStill]
              show wpList _ _ _ _ _ _
              go_wp2_with fail
              go_roundw
              case rel =>
                have HT := hid (HSD.out.set HGS.out 8 y (!R3 8 y) (by omega) (by omega) HN.out)
                first | exact ⟨j + 1, _, by omega, by go_num, HT⟩ | ((repeat apply Exists.intro); exact ⟨⟨j + 1, _, by omega, rfl, HT⟩, rfl⟩)
              case measure => first | (simp [intOf]; done) | (simp [intOf]; omega)
            · have h6' : ¬ (x : Int) < 8 := by omega
              go_wp2_with fail
              go_roundw
              case rel => first | exact ⟨j + 1, R3, by omega, by go_num, HS⟩ | ((repeat apply Exists.intro); exact ⟨⟨j + 1, R3, by omega, rfl, HS⟩, rfl⟩)
              case measure => first | (simp [intOf]; done) | (simp [intOf]; omega)
          · obtain rfl : j = 3 := by omega
            go_wp2_with fail
            go_roundw
            case rel => first | exact ⟨2, R3, by omega, by go_num, HS⟩ | ((repeat apply Exists.intro); exact ⟨⟨2, R3, by omega, rfl, HS⟩, rfl⟩)
            case measure => simp [intOf]
      · have q0 := HS.out.arr.cell? 6
        have q1 := HS.out.arr.cell? 7
        have q2 := HS.out.arr.cell? 8
        simp only [wrL, List.getElem?_cons_zero, List.getElem?_cons_succ] at q0 q1 q2
        go_wp2_with fail
        clear q0 q1 q2
        go_loopw [19] (fun jv wr => ∃ (j : Nat) (R2 : Nat → Nat → Bool), j ≤ 3 ∧ jv = .int .i64 (j : Nat) ∧ Hid (WrAt v n F V G gs W z w wr R2)) (fun jv _ => 3 - (intOf jv).toNat)
        case atStart => exact ⟨0, R2, by omega, rfl, HS⟩
        case round =>
          clear HS
          obtain ⟨j, R3, hj, rfl, HS⟩ := hrel
          by_cases hj3 : j < 3
          · have hj3' : (j : Int) < 3 := by omega
            obtain ⟨hWx, hx⟩ := HW.out 2 (by omega) j hj3
            have HWx := hid hWx
            have hix := IX.out 2 j hj3
            clear hWx
            generalize z 2 j = x at *
            by_cases h6 : x < 18
            · have h6' : (x : Int) < 18 := by omega
              by_cases h7 : 7 ≤ v
              · have h7' : (7 : Int) ≤ (v : Int) := by omega
                obtain ⟨a, ha⟩ : ∃ a, a = x / 3 := ⟨_, rfl⟩
                obtain ⟨y, hy⟩ : ∃ y, y = n - 11 + x % 3 := ⟨_, rfl⟩
                have ha' : (x : Int) / 3 = (a : Int) := by omega
                have hy' : (n : Int) - 11 + (x : Int) % 3 = (y : Int) := by omega
                have g1 : IntKind.i64.wrap ((n : Int) - 11) = (n : Int) - 11 := IntWalk.i64_in _ ⟨by omega, by omega⟩
                have g2 : IntKind.i64.wrap (y : Int) = (y : Int) := IntWalk.i64_in _ ⟨by omega, by omega⟩
                have g3 : IntKind.i64.wrap (a : Int) = (a : Int) := IntWalk.i64_in _ ⟨by omega, by omega⟩
                have hy2 : (n : Int) - 11 + (x : Int).tmod 3 = (y : Int) := by rw [Int.tmod_eq_emod_of_nonneg (by omega)]; exact hy'
                have g4 : IntKind.i64.wrap ((x : Int) % 3) = (x : Int) % 3 := IntWalk.i64_in _ ⟨by omega, by omega⟩
                have hyn : y < n := by omega
                have han : a < n := by omega
                obtain ⟨x1, x2, x3, x4, x5⟩ := HS.out.rows.cells a y (by omega) (by omega)
                have HN := hid (S3.out R3 HS.out.near h7 x h6 HWx.out a ha y hy (!R3 a y))
                clear ha hy
                go_wp2_with fail
                have b1 : a < n := by omega
                have b2 : y < n := by omega
                have b3 : ((a : Nat) : Int) < (n : Int) := by omega
                have b4 : ((y : Nat) : Int) < (n : Int) := by omega
                have b5 : (0 : Int) ≤ ((a : Nat) : Int) := by omega
                have b6 : (0 : Int) ≤ ((y : Nat) : Int) := by omega
                have b7 : (8 : Int) < (n : Int) := by omega
                have z1 := x1; have z2 := x2; have z3 := x3; have z5 := x5
                change wr.drew.cell? _ = _ at z1
                change wr.drew.cell? _ = _ at z2
                change wr.drew.frozen? _ = _ at z3
                change _ < wr.drew.heap.size at z5
                have HSD := hid HS.out.drew
                refine wp_region_still_tail 24 (by kernel_rfl) (by kernel_rfl) ?_
                change wpStill _ _ wr.drew (fun a' => wpList _ _ _ _ a' wr.drew) _ _
                clear x1 x2 x3 x5 HS
                generalize wr.drew = w2 at *
                simp only [List.take_succ_cons, List.take_zero, List.drop_succ_cons, List.drop_zero]
                repeat still_step
                rw [wpStill]
                show wpList _ _ _ _ _ _
                go_wp2_with fail
                go_roundw
                case rel =>
                  have HT := hid (HSD.out.set HGS.out a y (!R3 a y) (by omega) (by omega) HN.out)
                  first | exact ⟨j + 1, _, by omega, by go_num, HT⟩ | ((repeat apply Exists.intro); exact ⟨⟨j + 1, _, by omega, rfl, HT⟩, rfl⟩)
                case measure => first | (simp [intOf]; done) | (simp [intOf]; omega)
              · have h7' : ¬ (7 : Int) ≤ (v : Int) := by omega
                go_wp2_with fail
                go_roundw
                case rel => first | exact ⟨j + 1, R3, by omega, by go_num, HS⟩ | ((repeat apply Exists.intro); exact ⟨⟨j + 1, R3, by omega, rfl, HS⟩, rfl⟩)
                case measure => first | (simp [intOf]; done) | (simp [intOf]; omega)
            · have h6' : ¬ (x : Int) < 18 := by omega
              go_wp2_with fail
              go_roundw
              case rel => first | exact ⟨j + 1, R3, by omega, by go_num, HS⟩ | ((repeat apply Exists.intro); exact ⟨⟨j + 1, R3, by omega, rfl, HS⟩, rfl⟩)
              case measure => first | (simp [intOf]; done) | (simp [intOf]; omega)
          · obtain rfl : j = 3 := by omega
            go_wp2_with fail
            go_roundw
            case rel => first | exact ⟨3, R3, by omega, by go_num, HS⟩ | ((repeat apply Exists.intro); exact ⟨⟨3, R3, by omega, rfl, HS⟩, rfl⟩)
            case measure => simp [intOf]
      · have q0 := HS.out.arr.cell? 9
        have q1 := HS.out.arr.cell? 10
        have q2 := HS.out.arr.cell? 11
        simp only [wrL, List.getElem?_cons_zero, List.getElem?_cons_succ] at q0 q1 q2
        go_wp2_with fail
        clear q0 q1 q2
        go_loopw [19] (fun jv wr => ∃ (j : Nat) (R2 : Nat → Nat → Bool), j ≤ 3 ∧ jv = .int .i64 (j : Nat) ∧ Hid (WrAt v n F V G gs W z w wr R2)) (fun jv _ => 3 - (intOf jv).toNat)
        case atStart => exact ⟨0, R2, by omega, rfl, HS⟩
        case round =>
          clear HS
          obtain ⟨j, R3, hj, rfl, HS⟩ := hrel
          by_cases hj3 : j < 3
          · have hj3' : (j : Int) < 3 := by omega
            obtain ⟨hWx, hx⟩ := HW.out 3 (by omega) j hj3
            have HWx := hid hWx
            have hix := IX.out 3 j hj3
            clear hWx
            generalize z 3 j = x at *
            by_cases h6 : x < 18
            · have h6' : (x : Int) < 18 := by omega
              by_cases h7 : 7 ≤ v
              · have h7' : (7 : Int) ≤ (v : Int) := by omega
                obtain ⟨a, ha⟩ : ∃ a, a = x / 3 := ⟨_, rfl⟩
                obtain ⟨y, hy⟩ : ∃ y, y = n - 11 + x % 3 := ⟨_, rfl⟩
                have ha' : (x : Int) / 3 = (a : Int) := by omega
                have hy' : (n : Int) - 11 + (x : Int) % 3 = (y : Int) := by omega
                have g1 : IntKind.i64.wrap ((n : Int) - 11) = (n : Int) - 11 := IntWalk.i64_in _ ⟨by omega, by omega⟩
                have g2 : IntKind.i64.wrap (y : Int) = (y : Int) := IntWalk.i64_in _ ⟨by omega, by omega⟩
                have g3 : IntKind.i64.wrap (a : Int) = (a : Int) := IntWalk.i64_in _ ⟨by omega, by omega⟩
                have hy2 : (n : Int) - 11 + (x : Int).tmod 3 = (y : Int) := by rw [Int.tmod_eq_emod_of_nonneg (by omega)]; exact hy'
                have g4 : IntKind.i64.wrap ((x : Int) % 3) = (x : Int) % 3 := IntWalk.i64_in _ ⟨by omega, by omega⟩
                have hyn : y < n := by omega
                have han : a < n := by omega
                obtain ⟨x1, x2, x3, x4, x5⟩ := HS.out.rows.cells y a (by omega) (by omega)
                have HN := hid (S4.out R3 HS.out.near h7 x h6 a ha y hy (!R3 y a))
                clear ha hy
                go_wp2_with fail
                have b1 : y < n := by omega
                have b2 : a < n := by omega
                have b3 : ((y : Nat) : Int) < (n : Int) := by omega
                have b4 : ((a : Nat) : Int) < (n : Int) := by omega
                have b5 : (0 : Int) ≤ ((y : Nat) : Int) := by omega
                have b6 : (0 : Int) ≤ ((a : Nat) : Int) := by omega
                have b7 : (8 : Int) < (n : Int) := by omega
                have z1 := x1; have z2 := x2; have z3 := x3; have z5 := x5
                change wr.drew.cell? _ = _ at z1
                change wr.drew.cell? _ = _ at z2
                change wr.drew.frozen? _ = _ at z3
                change _ < wr.drew.heap.size at z5
                have HSD := hid HS.out.drew
                refine wp_region_still_tail 24 (by kernel_rfl) (by kernel_rfl) ?_
                change wpStill _ _ wr.drew (fun a' => wpList _ _ _ _ a' wr.drew) _ _
                clear x1 x2 x3 x5 HS
                generalize wr.drew = w2 at *
                simp only [List.take_succ_cons, List.take_zero, List.drop_succ_cons, List.drop_zero]
                repeat still_step
                rw [wpStill]
                show wpList _ _ _ _ _ _
                go_wp2_with fail
                go_roundw
                case rel =>
                  have HT := hid (HSD.out.set HGS.out y a (!R3 y a) (by omega) (by omega) HN.out)
                  first | exact ⟨j + 1, _, by omega, by go_num, HT⟩ | ((repeat apply Exists.intro); exact ⟨⟨j + 1, _, by omega, rfl, HT⟩, rfl⟩)
                case measure => first | (simp [intOf]; done) | (simp [intOf]; omega)
              · have h7' : ¬ (7 : Int) ≤ (v : Int) := by omega
                go_wp2_with fail
                go_roundw
                case rel => first | exact ⟨j + 1, R3, by omega, by go_num, HS⟩ | ((repeat apply Exists.intro); exact ⟨⟨j + 1, R3, by omega, rfl, HS⟩, rfl⟩)
                case measure => first | (simp [intOf]; done) | (simp [intOf]; omega)
            · have h6' : ¬ (x : Int) < 18 := by omega
              go_wp2_with fail
              go_roundw
              case rel => first | exact ⟨j + 1, R3, by omega, by go_num, HS⟩ | ((repeat apply Exists.intro); exact ⟨⟨j + 1, R3, by omega, rfl, HS⟩, rfl⟩)
              case measure => first | (simp [intOf]; done) | (simp [intOf]; omega)
          · obtain rfl : j = 3 := by omega
            go_wp2_with fail
            go_roundw
            case rel => first | exact ⟨4, R3, by omega, by go_num, HS⟩ | ((repeat apply Exists.intro); exact ⟨⟨4, R3, by omega, rfl, HS⟩, rfl⟩)
            case measure => simp [intOf]
    · obtain rfl : k = 4 := by omega
      go_wp2_with fail
      go_end0
      exact ⟨R2, rfl, HS.out.rows, HS.out.near, HS.out.bel⟩
end Go.Proofs.Ytpffffhgmhpkiaa
