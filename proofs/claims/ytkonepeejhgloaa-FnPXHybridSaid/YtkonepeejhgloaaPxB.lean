/- PlanarYUVLuminanceSource.reverseHorizontal: the walk. -/
import Derived.Test.YtkonepeejhgloaaPxA
import Derived.Laws.OwnMore
import Derived.BigQuiet
import Derived.Deep.QuietTactic
import Derived.BigRegion
namespace Go.Proofs.Ytkonepeejhgloaa
open Go.RowKit
set_option linter.unusedVariables false
/-- The slice of n bytes at block g is the call's own and reads px. -/
def OwnB (w : World) (B g n cap : Nat) (px : Nat → Nat) : Prop := w.ownsRow B 5 1 (.slice (some ⟨g, 0, none⟩) n cap) n (bytesOf n px)
section
variable {w w' : World} {B g n cap : Nat} {px qx : Nat → Nat}
theorem OwnB.cell (h : OwnB w B g n cap px) (k : Nat) (hk : k < n) : w.cell? ⟨g, k, none⟩ = some (.int .u8 (px k : Nat)) := by
  have h' : w.ownsRow B 5 1 (.slice (some ⟨g, 0, none⟩) n cap) n (bytesOf n px) := h
  rw [h'.cellAt k (by omega), bytesOf_at n px k hk]
theorem OwnB.frozen (h : OwnB w B g n cap px) (k : Nat) : w.frozen? ⟨g, k, none⟩ = false := World.ownsRow.frozenAt h k
theorem OwnB.congr (h : OwnB w B g n cap px) (e : ∀ k, k < n → px k = qx k) : OwnB w B g n cap qx := by
  unfold OwnB; rw [← bytesOf_congr e]; exact h
theorem OwnB.set (h : OwnB w B g n cap px) (j v : Nat) : OwnB (w.setCell ⟨g, j, none⟩ (.int .u8 (v : Nat))) B g n cap (fun k => if k = j then v else px k) := by
  have := (World.ownsRow.stored h j (.int .u8 (v : Nat))).1
  have e : (bytesOf n px).set j (.int .u8 (v : Nat)) = bytesOf n (fun k => if k = j then v else px k) := by
    apply List.ext_getElem
    · simp [bytesOf]
    · intro i h1 h2
      simp only [bytesOf, List.getElem_set, List.getElem_map, List.getElem_range]
      by_cases hij : j = i
      · simp [hij]
      · rw [if_neg hij, if_neg (fun h : i = j => hij h.symm)]
  rw [e] at this
  exact this
theorem OwnB.below {C : Nat} (h : OwnB w B g n cap px) (hb : Below C w w') (hC : g < C) : OwnB w' B g n cap px := by
  have h' : Own w B 5 (.slice (some ⟨g, 0, none⟩) n cap) (bytesOf n px) := by unfold Own; rw [bytesOf_length]; exact h
  have := h'.below hb (fun k hk => by simp only [Value.ownBlock, Option.some.injEq] at hk; omega)
  unfold Own at this; rw [bytesOf_length] at this; exact this
theorem OwnB.drewN (h : OwnB w B g n cap px) (m : Nat) : OwnB (w.drewN m) B g n cap px := h
theorem OwnB.rd (h : OwnB w B g n cap px) : Rd w (some ⟨g, 0, none⟩) n (bytesOf n px) := by
  have h' : Own w B 5 (.slice (some ⟨g, 0, none⟩) n cap) (bytesOf n px) := by unfold Own; rw [bytesOf_length]; exact h
  obtain ⟨A, c, hv, hR, _⟩ := h'.form
  injection hv with h1 h2 h3
  rw [bytesOf_length] at hR
  rw [h1]; exact hR
theorem OwnB.lt (h : OwnB w B g n cap px) : g < w.heap.size := by
  rcases h.2 with ⟨h', _⟩ | ⟨g', cap', cur, h', _, hg, _⟩
  · simp at h'
  · simp only [Value.slice.injEq, Option.some.injEq, Addr.mk.injEq, and_true, true_and] at h'
    obtain ⟨rfl, rfl⟩ := h'
    rcases Nat.lt_or_ge g w.heap.size with hl | hl
    · exact hl
    · rw [Array.getElem?_eq_none hl] at hg; cases hg
end
/-- A source of n grays at block q, its grays at block g. -/
def Plan (w : World) (q g wd h n cap : Nat) : Prop := Arr w q 82 [.int .i64 wd, .int .i64 h, .slice (some ⟨g, 0, none⟩) n cap, .int .i64 wd, .int .i64 h, .int .i64 0, .int .i64 0]
def RevOut (C B q g wd h n cap : Nat) (px : Nat → Nat) (w : World) (e : Ending) (w' : World) : Prop :=
  e = .returned (.tuple #[]) ∧ OwnB w' B g n cap (fun k => px (mir wd k)) ∧ Plan w' q g wd h n cap ∧ Below C w w'
set_option maxRecDepth 20000 in
set_option maxHeartbeats 8000000 in
theorem reverse (C B q g wd h n cap : Nat) (px : Nat → Nat) (w : World) (hP : Plan w q g wd h n cap) (hO : OwnB w B g n cap px) (hqg : q ≠ g) (hC : C ≤ g) (hCs : C ≤ w.heap.size) (hw1 : 1 ≤ wd) (hw2 : wd ≤ 60) (hh2 : h ≤ 60) (hn : n = wd * h) (hpx : ∀ k, px k < 256) :
    Calls Try.prog 35 #[.pointer (some ⟨q, 0, none⟩), .int .i64 wd, .int .i64 h] w (RevOut C B q g wd h n cap px w) := by
  have c2 := hP.cell? 2
  have c3 := hP.cell? 3
  have c5 := hP.cell? 5
  have c6 := hP.cell? 6
  simp only [List.getElem?_cons_zero, List.getElem?_cons_succ] at c2 c3 c5 c6
  have HP := hid hP
  have HO := hid hO
  have HPX := hid hpx
  have HN := hid hn
  have HQG := hid hqg
  have hnb : n ≤ 60 * 60 := by rw [hn]; exact Nat.mul_le_mul hw2 hh2
  have B0 := hid (below_drewN (Below.refl C w))
  have HT0 := hid (hO.congr (qx := turned wd 0 0 px) fun k _ => (turned_zero wd px k).symm)
  clear hP hO hpx hn hqg
  go_enter Try.func35, Try.ntmps35
  go_wp2_with fail
  go_quiet (fail)
  go_wp2_with fail
  generalize hw1' : w.drewN _ = w1 at *
  go_loopw [7, 8] (fun yv rv wr => ∃ y R : Nat, y ≤ h ∧ yv = .int .i64 y ∧ rv = .int .i64 R ∧ R ≤ 3600 ∧ Hid (R = y * wd) ∧ Hid (OwnB wr B g n cap (turned wd y 0 px)) ∧ Hid (Plan wr q g wd h n cap) ∧ Hid (Below C w wr)) (fun yv _ _ => h - (intOf yv).toNat)
  case atStart => exact ⟨0, 0, by omega, rfl, rfl, by omega, hid (by simp), hid (by rw [← hw1']; exact HT0.out), hid (by rw [← hw1']; exact HP.out), hid (by rw [← hw1']; exact B0.out _)⟩
  case round =>
    obtain ⟨y, R, hy, rfl, rfl, hR3, HR, HOy, HPy, HBy⟩ := hrel
    by_cases hlt : y < h
    · have hlt2 : (y : Int) < (h : Int) := by omega
      have hrow : R + wd ≤ n := by
        have : (y + 1) * wd ≤ h * wd := Nat.mul_le_mul_right wd hlt
        rw [Nat.add_mul, Nat.one_mul, ← HR.out] at this
        rw [HN.out, Nat.mul_comm]; exact this
      obtain ⟨m, hm⟩ : ∃ m, m = wd / 2 := ⟨_, rfl⟩
      have em : (wd : Int) / 2 = (m : Int) := by omega
      have hm2 : 2 * m ≤ wd := by omega
      have hm3 : m ≤ wd := by omega
      have HM := hid hm
      clear hm
      go_wp2_with fail
      obtain ⟨wo, rfl⟩ : ∃ wo : World, wo = wr := ⟨_, rfl⟩
      go_loopw [10, 11] (fun av bv wr => ∃ t : Nat, t ≤ m ∧ av = .int .i64 ((R + t : Nat) : Int) ∧ bv = .int .i64 ((R : Int) + wd - 1 - t) ∧ Hid (OwnB wr B g n cap (turned wd y t px)) ∧ Hid (Plan wr q g wd h n cap) ∧ Hid (Below C w wr)) (fun av _ _ => R + m - (intOf av).toNat)
      case atStart => exact ⟨0, by omega, by go_num, by go_num, HOy, HPy, HBy⟩
      case round =>
        obtain ⟨t, ht, rfl, rfl, HOt, HPt, HBt⟩ := hrel
        by_cases htm : t < m
        · obtain ⟨i, hi⟩ : ∃ i, i = R + t := ⟨_, rfl⟩
          obtain ⟨j, hj⟩ : ∃ j, j = R + (wd - 1 - t) := ⟨_, rfl⟩
          have ej : (R : Int) + wd - 1 - t = (j : Int) := by omega
          rw [← hi, ej]
          have him : (i : Int) < (R : Int) + (m : Int) := by omega
          have hij : i < j := by omega
          have hjn : j < n := by omega
          have hin : i < n := by omega
          have ci := HOt.out.cell i hin
          have cj := HOt.out.cell j hjn
          have fi := HOt.out.frozen i
          have fj := HOt.out.frozen j
          obtain ⟨l1, l2⟩ := turned_left wd y t px (by rw [← HM.out]; exact htm)
          rw [← HR.out, ← hi] at l1
          rw [← HR.out, ← hj] at l2
          rw [l1] at ci
          rw [l2] at cj
          have hne : (⟨g, i, none⟩ : Addr) ≠ ⟨g, j, none⟩ := fun e => by injection e; omega
          have hne2 : (⟨g, j, none⟩ : Addr) ≠ ⟨g, i, none⟩ := fun e => by injection e; omega
          have hs1 := (HOt.out.set i (px j)).set j (px i)
          have HS1 := hid (hs1.congr (qx := turned wd y (t + 1) px) fun k _ => by
            rw [turned_step wd y t px (by rw [← HM.out]; exact htm) k, ← HR.out, ← hi, ← hj]
            by_cases h1 : k = i
            · rw [if_neg (by omega), if_pos h1, if_pos h1]
            · rw [if_neg h1, if_neg h1])
          have hs2 := (HOt.out.set j (px i)).set i (px j)
          have HS2 := hid (hs2.congr (qx := turned wd y (t + 1) px) fun k _ => by
            rw [turned_step wd y t px (by rw [← HM.out]; exact htm) k, ← HR.out, ← hi, ← hj])
          have HI := hid hi
          have HJ := hid ej
          have hpi := HPX.out i
          have hpj := HPX.out j
          have HQ := HQG.out
          have P1 := hid (((HPt.out.far (p := ⟨g, i, none⟩) HQ (.int .u8 (px j : Nat))).far (p := ⟨g, j, none⟩) HQ (.int .u8 (px i : Nat))))
          have P2 := hid (((HPt.out.far (p := ⟨g, j, none⟩) HQ (.int .u8 (px i : Nat))).far (p := ⟨g, i, none⟩) HQ (.int .u8 (px j : Nat))))
          have BB1 := hid ((HBt.out.setCell (p := ⟨g, i, none⟩) hC (.int .u8 (px j : Nat))).setCell (p := ⟨g, j, none⟩) hC (.int .u8 (px i : Nat)))
          have BB2 := hid ((HBt.out.setCell (p := ⟨g, j, none⟩) hC (.int .u8 (px i : Nat))).setCell (p := ⟨g, i, none⟩) hC (.int .u8 (px j : Nat)))
          have hjm : (j : Int) - 1 = (R : Int) + wd - 1 - ((t + 1 : Nat) : Int) := by omega
          have HJM := hid hjm
          clear hs1 hs2 hi hj ej l1 l2 hjm HQ
          generalize px i = xi at *
          generalize px j = xj at *
          go_wp2_with fail
          go_region
          all_goals
            go_wp2_with fail
            go_roundw
            case rel => first
              | exact ⟨t + 1, by omega, by rw [HI.out]; go_num, by rw [HJM.out], hid (by exact HS1.out), hid (by exact P1.out), hid (by exact BB1.out.drew)⟩
              | exact ⟨t + 1, by omega, by rw [HI.out]; go_num, by rw [HJM.out], hid (by exact HS2.out), hid (by exact P2.out), hid (by exact BB2.out.drew)⟩
            case measure => have := HI.out; simp [intOf]; omega
        · obtain rfl : t = m := by omega
          have hge : ¬ ((R + t : Nat) : Int) < (R : Int) + (t : Int) := by omega
          have k3 := HPt.out.cell? 3
          simp only [List.getElem?_cons_zero, List.getElem?_cons_succ] at k3
          have HR2 : Hid (R + wd = (y + 1) * wd) := hid (by rw [Nat.add_mul, Nat.one_mul, ← HR.out])
          have HO2 := hid (HOt.out.congr (qx := turned wd (y + 1) 0 px) fun k _ => by rw [HM.out]; exact turned_row wd y hw1 px k)
          go_wp2_with fail
          go_quiet (fail)
          go_wp2_with fail
          go_roundw
          case rel => exact ⟨y + 1, R + wd, by omega, by go_num, by go_num, by omega, HR2, hid (by exact HO2.out), hid (by exact HPt.out), hid (by exact below_drewN HBt.out _)⟩
          case measure => simp [intOf]; omega
    · obtain rfl : y = h := by omega
      have HO2 := hid (HOy.out.congr (qx := fun k => px (mir wd k)) fun k hk => turned_all wd y px k (by rw [← HN.out]; exact hk))
      go_wp2_with fail
      go_end0
      exact ⟨rfl, HO2.out, HPy.out, HBy.out⟩
end Go.Proofs.Ytkonepeejhgloaa
