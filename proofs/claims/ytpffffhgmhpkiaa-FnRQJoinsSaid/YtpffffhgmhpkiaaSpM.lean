/- QR codes: spec.QRBytes: bits as bytes. -/
import Derived.Test.YtpffffhgmhpkiaaSpK0
namespace Go.Proofs.Ytpffffhgmhpkiaa
open Go.RowKit
set_option linter.unusedVariables false
set_option linter.unusedSimpArgs false

theorem Own.ofArr {w : World} {B g : Nat} {e : TypeId} {xs : List Value} (h : Arr w g e xs) (hB : B ≤ g) (hm : xs.length ≤ maxLen) : Own w B e (.slice (some ⟨g, 0, none⟩) xs.length xs.length) xs :=
  ⟨by simp, .inr ⟨g, xs.length, xs.toArray, rfl, hB, h, Nat.le_refl _, hm, by simp, by simp⟩⟩
def bytesUp (Bs : List Bool) (i : Nat) : List Nat := (List.range i).map fun t => bval Bs (8 * t) 8
/-- The bytes that are made, number i with the value x. -/
def rowUp (Bs : List Bool) (m i x : Nat) : List Nat := bytesUp Bs i ++ x :: List.replicate (m - (i + 1)) 0
theorem bytesUp_len (Bs : List Bool) (i : Nat) : (bytesUp Bs i).length = i := by simp [bytesUp]
theorem rowUp_len (Bs : List Bool) (m i x : Nat) (h : i < m) : (rowUp Bs m i x).length = m := by simp [rowUp, bytesUp_len]; omega
theorem rowUp_at (Bs : List Bool) (m i x : Nat) : (u8s (rowUp Bs m i x))[i]? = some (.int .u8 (x : Nat)) := by
  unfold rowUp u8s
  rw [List.map_append, List.getElem?_append_right (by simp [bytesUp_len])]
  simp [bytesUp_len]
theorem rowUp_set (Bs : List Bool) (m i x y : Nat) : (u8s (rowUp Bs m i x)).set i (.int .u8 (y : Nat)) = u8s (rowUp Bs m i y) := by
  unfold rowUp u8s
  rw [List.map_append, List.set_append_right _ _ (by simp [bytesUp_len])]
  simp [bytesUp_len]
theorem rowUp_next (Bs : List Bool) (m i : Nat) (h : i < m) : rowUp Bs m i (bval Bs (8 * i) 8) = bytesUp Bs (i + 1) ++ List.replicate (m - (i + 1)) 0 := by
  unfold rowUp bytesUp
  rw [List.range_succ, List.map_append, List.map_singleton, List.append_assoc]
  rfl
theorem rowUp_zero (Bs : List Bool) (m i : Nat) (h : i < m) : bytesUp Bs i ++ List.replicate (m - i) 0 = rowUp Bs m i 0 := by
  unfold rowUp
  rw [show m - i = (m - (i + 1)) + 1 by omega, List.replicate_succ]
theorem u8wrapM (x : Int) : IntKind.u8.wrap x = x % 256 := by
  simp [IntKind.wrap, IntKind.signed, IntKind.bits]
def BytesO (Bs : List Bool) (w : World) (e : Ending) (w' : World) : Prop :=
  ∃ g, e = .returned (.slice (some ⟨g, 0, none⟩) (Bs.length / 8) (Bs.length / 8)) ∧ Arr w' g 5 (u8s (bytesB Bs)) ∧ w.heap.size ≤ g ∧ Below w.heap.size w w'
set_option maxRecDepth 20000 in
set_option maxHeartbeats 8000000 in
theorem bytesQ (Bs : List Bool) (A : Option Addr) (n c : Nat) (w : World) (hR : Rd w A n (bools Bs)) (hn : n = Bs.length) (hl : Bs.length ≤ 100000) :
    Calls Try.prog 50 #[.slice A n c] w (BytesO Bs w) := by
  obtain ⟨i5, gi, gz0, gz1, gz2⟩ := info_of info5
  obtain ⟨m, hm⟩ : ∃ m, m = Bs.length / 8 := ⟨_, rfl⟩
  have hm' : (n : Int) / 8 = (m : Int) := by omega
  have hml : m ≤ 20000 := by omega
  have hmk := fun W => run_make (P := Try.prog) W 22 5 i5 (.int .u8 0) Try.underlying22 gi gz0 .i64 .i64 (m : Int) (m : Int) (by omega) (by omega) (by rw [gz2]; omega) (by omega)
  simp only [gz1] at hmk
  have HM := hid hm
  have HN := hid hn
  have HR := hid hR
  have HBT := hid (fun i j (hi : i < m) (hj : j < 8) => show bval Bs (8 * i) (j + 1) = 2 * bval Bs (8 * i) j + (if Bs.getD (8 * i + j) false = true then 1 else 0) from rfl)
  have HLT := hid (fun i j (hj : j < 8) => show bval Bs (8 * i) j < 128 from by
    have h1 := bval_lt Bs (8 * i) j
    have h2 : 2 ^ j ≤ 2 ^ 7 := Nat.pow_le_pow_right (by decide) (by omega)
    omega)
  have hnl : n ≤ 100000 := by omega
  have hmn : 8 * m ≤ n := by omega
  clear hm hR hn
  go_enter Try.func50, Try.ntmps50
  go_wp2_with fail
  have HA := hid (show Arr (w.alloc (.cells (madeCells #[.int .u8 0] m) 5)) w.heap.size 5 (u8s (bytesUp Bs 0 ++ List.replicate (m - 0) 0)) from by
    have := Arr.made w 5 (.int .u8 0) m
    rw [u8s_rep] at this
    simpa [bytesUp] using this)
  have HB := hid ((Below.refl w.heap.size w).alloc (Nat.le_refl _) (.cells (madeCells #[.int .u8 0] m) 5))
  obtain ⟨g, hg⟩ : ∃ g, g = w.heap.size := ⟨_, rfl⟩
  rw [← hg] at HA ⊢
  have HG := hid hg
  generalize w.alloc (.cells (madeCells #[.int .u8 0] m) 5) = w1 at *
  clear hmk hm' hg
  go_loopw [12] (fun iv wr => ∃ i : Nat, i ≤ m ∧ iv = .int .i64 (i : Nat) ∧ Hid (Arr wr g 5 (u8s (bytesUp Bs i ++ List.replicate (m - i) 0))) ∧ Hid (Below w.heap.size w wr)) (fun iv _ => m - (intOf iv).toNat)
  case atStart => exact ⟨0, by omega, rfl, HA, HB⟩
  case round =>
    clear HA HB
    obtain ⟨i, hi, rfl, HA, HB⟩ := hrel
    by_cases hlt : i < m
    · have hlt' : (i : Int) < (m : Int) := by omega
      have HA0 := hid (show Arr wr g 5 (u8s (rowUp Bs m i (bval Bs (8 * i) 0))) from by have := HA.out; rwa [rowUp_zero Bs m i hlt] at this)
      clear HA
      go_wp2_with fail
      go_loopw [5] (fun jv wr => ∃ j : Nat, j ≤ 8 ∧ jv = .int .i64 (j : Nat) ∧ Hid (Arr wr g 5 (u8s (rowUp Bs m i (bval Bs (8 * i) j)))) ∧ Hid (Below w.heap.size w wr)) (fun jv _ => 8 - (intOf jv).toNat)
      case atStart => exact ⟨0, by omega, rfl, HA0, HB⟩
      case round =>
        clear HA0 HB
        obtain ⟨j, hj, rfl, HA, HB⟩ := hrel
        by_cases hj8 : j < 8
        · have hj8' : (j : Int) < 8 := by omega
          have q0 := (HA.out.cell? i).trans (rowUp_at Bs m i _)
          have fz := HA.out.frozen i
          have hRr := HR.out.below HB.out
          obtain ⟨bb, bo, rfl, hbb, hcc⟩ := hRr.2 (by omega)
          have hk8 : 8 * i + j < n := by omega
          have c0 := hcc (8 * i + j) (by rw [bools_len, ← HN.out]; exact hk8)
          have hgl := HA.out.lt
          have hbg : bb ≠ g := fun e => by
            have h1 := HR.out.2 (by omega)
            obtain ⟨b', o', e', hb', _⟩ := h1
            injection e' with e'; injection e' with e1 e2
            have := HG.out; omega
          have HS := hid (HBT.out i j hlt hj8)
          have hxl := HLT.out i j hj8
          simp only [bools, List.getElem_map] at c0
          have hgd : Bs.getD (8 * i + j) false = Bs[8 * i + j]'(by rw [← HN.out]; exact hk8) := by rw [List.getD, List.getElem?_eq_getElem (by rw [← HN.out]; exact hk8)]; rfl
          rw [hgd] at HS
          have HAX := hid (fun y => HA.out.set i (.int .u8 ((y : Nat) : Int)))
          simp only [rowUp_set] at HAX
          obtain ⟨p, hp⟩ : ∃ p, p = bo + (8 * i + j) := ⟨_, rfl⟩
          rw [← hp] at c0
          have hp2 : bo + (8 * i + j) = p := hp.symm
          generalize bval Bs (8 * i) j = x at *
          obtain ⟨x2, hx2e⟩ : ∃ x2, x2 = bval Bs (8 * i) (j + 1) := ⟨_, rfl⟩
          rw [← hx2e] at HS
          have HX2 := hid hx2e
          clear hx2e
          generalize Bs[8 * i + j]'(by rw [← HN.out]; exact hk8) = bit at *
          obtain ⟨y, hy⟩ : ∃ y, y = 2 * x := ⟨_, rfl⟩
          have hyw : IntKind.u8.wrap ((x : Int) * 2) = (y : Int) := by rw [u8wrapM]; omega
          have hy2 : (x : Int) * 2 = (y : Int) := by omega
          have hyl : y < 255 := by omega
          have k1 : (8 : Int) * (i : Int) + (j : Int) < (n : Int) := by omega
          have k2 : (0 : Int) ≤ (8 : Int) * (i : Int) + (j : Int) := by omega
          have k3 : ((8 : Int) * (i : Int) + (j : Int)).toNat = 8 * i + j := by omega
          have HY := hid hy
          clear hcc hRr hgd hp hy
          cases bit with
          | true =>
            have hx2 := HS.out
            simp only [if_true] at hx2
            have hz : (y : Int) + 1 = (x2 : Int) := by have := HY.out; omega
            have HZ := hid hx2
            clear hx2
            have HT := hid (show Arr ((wr.setCell ⟨g, i, none⟩ (.int .u8 (y : Nat))).setCell ⟨g, i, none⟩ (.int .u8 (x2 : Nat))) g 5 (u8s (rowUp Bs m i (bval Bs (8 * i) (j + 1)))) from by have := (HAX.out y).set i (.int .u8 (x2 : Nat)); rw [← HX2.out]; rwa [rowUp_set] at this)
            have HB2 := hid ((HB.out.setCell (p := ⟨g, i, none⟩) (by simp [HG.out]) (.int .u8 (y : Nat))).setCell (p := ⟨g, i, none⟩) (by simp [HG.out]) (.int .u8 (x2 : Nat)))
            go_wp2_with fail
            go_roundw
            case rel => first | exact ⟨j + 1, by omega, by go_num, HT, HB2⟩ | ((repeat apply Exists.intro); exact ⟨⟨j + 1, by omega, rfl, HT, HB2⟩, rfl⟩)
            case measure => first | (simp [intOf]; done) | (simp [intOf]; omega)
          | false =>
            have hx2 := HS.out
            simp only [Bool.false_eq_true, if_false, Nat.add_zero] at hx2
            have HZ := hid (show x2 = y from by have := HY.out; omega)
            clear hx2
            have HT := hid (show Arr (wr.setCell ⟨g, i, none⟩ (.int .u8 (y : Nat))) g 5 (u8s (rowUp Bs m i (bval Bs (8 * i) (j + 1)))) from by rw [← HX2.out, HZ.out]; exact HAX.out y)
            have HB2 := hid (HB.out.setCell (p := ⟨g, i, none⟩) (by simp [HG.out]) (.int .u8 (y : Nat)))
            go_wp2_with fail
            go_roundw
            case rel => first | exact ⟨j + 1, by omega, by go_num, HT, HB2⟩ | ((repeat apply Exists.intro); exact ⟨⟨j + 1, by omega, rfl, HT, HB2⟩, rfl⟩)
            case measure => first | (simp [intOf]; done) | (simp [intOf]; omega)
        · obtain rfl : j = 8 := by omega
          have hj8' : ¬ ((8 : Nat) : Int) < 8 := by omega
          have HA8 := hid (show Arr wr g 5 (u8s (bytesUp Bs (i + 1) ++ List.replicate (m - (i + 1)) 0)) from by have := HA.out; rwa [rowUp_next Bs m i hlt] at this)
          go_wp2_with fail
          go_roundw
          case rel => first | exact ⟨i + 1, by omega, by go_num, HA8, HB⟩ | ((repeat apply Exists.intro); exact ⟨⟨i + 1, by omega, rfl, HA8, HB⟩, rfl⟩)
          case measure => first | (simp [intOf]; done) | (simp [intOf]; omega)
    · obtain rfl : i = m := by omega
      have hlt' : ¬ (i : Int) < (i : Int) := by omega
      have HA2 := hid (show Arr wr g 5 (u8s (bytesB Bs)) from by
        have := HA.out
        rw [Nat.sub_self, List.replicate_zero, List.append_nil] at this
        rw [show bytesB Bs = bytesUp Bs i from by unfold bytesB bytesUp; rw [HM.out]]
        exact this)
      go_wp2_with fail
      go_ret
      exact ⟨g, by rw [← HM.out]; rfl, HA2.out, by rw [HG.out]; exact Nat.le_refl _, HB.out⟩
end Go.Proofs.Ytpffffhgmhpkiaa
