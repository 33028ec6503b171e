/- GetMatrix of a source and of an inverted one; impl.GrayInvert, GrayMirror: the walks. -/
import Derived.Test.YtkonepeejhgloaaPxC
namespace Go.Proofs.Ytkonepeejhgloaa
open Go.RowKit
set_option linter.unusedVariables false
set_option linter.unusedSimpArgs false
section
variable (w : World) (q g wd h n cap : Nat) (hP : Plan w q g wd h n cap)
include hP
theorem getWidth : Calls Try.prog 74 #[.pointer (some ⟨q, 0, none⟩)] w fun e w' => e = .returned (.int .i64 wd) ∧ w = w' := by
  have c := hP.cell? 0
  simp only [List.getElem?_cons_zero, List.getElem?_cons_succ] at c
  clear hP
  go_enter Try.func74, Try.ntmps74
  go_wp2_with fail
  go_ret
  exact ⟨rfl, rfl⟩
theorem getHeight : Calls Try.prog 71 #[.pointer (some ⟨q, 0, none⟩)] w fun e w' => e = .returned (.int .i64 h) ∧ w = w' := by
  have c := hP.cell? 1
  simp only [List.getElem?_cons_zero, List.getElem?_cons_succ] at c
  clear hP
  go_enter Try.func71, Try.ntmps71
  go_wp2_with fail
  go_ret
  exact ⟨rfl, rfl⟩
theorem getMatrix : Calls Try.prog 72 #[.pointer (some ⟨q, 0, none⟩)] w fun e w' => e = .returned (.slice (some ⟨g, 0, none⟩) n cap) ∧ w = w' := by
  have gw := fun m => getWidth (w.drewN m) q g wd h n cap (Arr.drewN hP m)
  have gh := fun m => getHeight (w.drewN m) q g wd h n cap (Arr.drewN hP m)
  have c2 := hP.cell? 2
  have c3 := hP.cell? 3
  have c4 := hP.cell? 4
  simp only [List.getElem?_cons_zero, List.getElem?_cons_succ] at c2 c3 c4
  clear hP
  go_enter Try.func72, Try.ntmps72
  go_wp2_with fail
  refine (gw 0).mono ?_
  rintro e w1 ⟨rfl, rfl⟩
  go_wp2_with fail
  refine (gh 0).mono ?_
  rintro e w1 ⟨rfl, rfl⟩
  go_wp2_with fail
  go_ret
  exact ⟨rfl, rfl⟩
end
def Inv (w : World) (r q : Nat) : Prop := Arr w r 135 [.iface 78 (.pointer (some ⟨q, 0, none⟩))]
def InvOut (q : Nat) (w : World) (e : Ending) (w' : World) : Prop := e = .returned (.iface 133 (.pointer (some ⟨w.heap.size, 0, none⟩))) ∧ Inv w' w.heap.size q ∧ Below w.heap.size w w'
theorem newInv (q : Nat) (w : World) : Calls Try.prog 82 #[.iface 78 (.pointer (some ⟨q, 0, none⟩))] w (InvOut q w) := by
  have P := hid (Arr.of_new w 135 #[.iface 78 (.pointer (some ⟨q, 0, none⟩))])
  have HB := hid ((Below.refl w.heap.size w).alloc (Nat.le_refl _) (.cells #[.iface 78 (.pointer (some ⟨q, 0, none⟩))] 135))
  go_enter Try.func82, Try.ntmps82
  go_wp2_with fail
  go_ret
  exact ⟨rfl, P.out, HB.out⟩
theorem invSrc (q : Nat) (w : World) : Calls Try.prog 81 #[.iface 78 (.pointer (some ⟨q, 0, none⟩))] w (InvOut q w) := by
  have ni := newInv q w
  go_enter Try.func81, Try.ntmps81
  go_wp2_with fail
  refine ni.mono ?_
  rintro e w1 ⟨rfl, h1, h2⟩
  have H1 := hid h1
  have H2 := hid h2
  clear h1 h2 ni
  go_wp2_with fail
  go_ret
  exact ⟨rfl, H1.out, H2.out⟩
theorem invert (q : Nat) (w : World) : Calls Try.prog 75 #[.pointer (some ⟨q, 0, none⟩)] w (InvOut q w) := by
  have ni := invSrc q w
  go_enter Try.func75, Try.ntmps75
  go_wp2_with fail
  refine ni.mono ?_
  rintro e w1 ⟨rfl, h1, h2⟩
  have H1 := hid h1
  have H2 := hid h2
  clear h1 h2 ni
  go_wp2_with fail
  go_ret
  exact ⟨rfl, H1.out, H2.out⟩
theorem metM (a : Addr) (w : World) : (method 244 78 (.pointer (some a)) "GetMatrix").run Try.prog w = .ok (72, .pointer (some a)) w := by kernel_rfl
theorem metW (a : Addr) (w : World) : (method 244 78 (.pointer (some a)) "GetWidth").run Try.prog w = .ok (74, .pointer (some a)) w := by kernel_rfl
theorem metH (a : Addr) (w : World) : (method 244 78 (.pointer (some a)) "GetHeight").run Try.prog w = .ok (71, .pointer (some a)) w := by kernel_rfl
theorem metI (a : Addr) (w : World) : (method 244 78 (.pointer (some a)) "Invert").run Try.prog w = .ok (75, .pointer (some a)) w := by kernel_rfl
theorem metJ (a : Addr) (w : World) : (method 244 133 (.pointer (some a)) "GetMatrix").run Try.prog w = .ok (97, .pointer (some a)) w := by kernel_rfl
theorem u8_255 (x : Nat) (h : x < 256) : bits .and .u8 (x : Int) 255 = (x : Int) := by
  have h2 := (List.all_eq_true.1 (show ((List.range 256).all fun (x : Nat) => decide (bits .and .u8 (x : Int) 255 = (x : Int))) = true by decide +kernel)) x (List.mem_range.2 h)
  exact of_decide_eq_true h2
def MatOut (n : Nat) (px : Nat → Nat) (w : World) (e : Ending) (w' : World) : Prop := ∃ b, e = .returned (.slice (some ⟨b, 0, none⟩) n n) ∧ Arr w' b 5 (bytesOf n px) ∧ Below w.heap.size w w'
set_option maxRecDepth 20000 in
set_option maxHeartbeats 4000000 in
theorem invMatrix (w : World) (r q g wd h n cap : Nat) (px : Nat → Nat) (hI : Inv w r q) (hP : Plan w q g wd h n cap) (hO : ∀ k, k < n → w.cell? ⟨g, k, none⟩ = some (.int .u8 (px k : Nat))) (hgl : g < w.heap.size) (hcn : n ≤ cap) (hw2 : wd ≤ 60) (hh2 : h ≤ 60) (hn : n = wd * h) (hn1 : 1 ≤ n) (hpx : ∀ k, px k < 256) :
    Calls Try.prog 97 #[.pointer (some ⟨r, 0, none⟩)] w (MatOut n (fun k => 255 - px k) w) := by
  have gw := fun m => getWidth (w.drewN m) q g wd h n cap (Arr.drewN hP m)
  have gh := fun m => getHeight (w.drewN m) q g wd h n cap (Arr.drewN hP m)
  have gm := getMatrix w q g wd h n cap hP
  have c0 := hI.cell? 0
  simp only [List.getElem?_cons_zero, List.getElem?_cons_succ] at c0
  have m1 := metM ⟨q, 0, none⟩
  have m2 := metW ⟨q, 0, none⟩
  have m3 := metH ⟨q, 0, none⟩
  have hmul : (wd : Int) * (h : Int) = (n : Int) := by rw [hn]; exact (Int.natCast_mul _ _).symm
  have hnb : n ≤ 60 * 60 := by rw [hn]; exact Nat.mul_le_mul hw2 hh2
  obtain ⟨i0, hi, hz0, hz1, hz2⟩ := info_parts info5
  have hmk := fun W1 => run_make (P := Try.prog) W1 22 5 i0 (.int .u8 0) Try.underlying22 hi hz0 .i64 .i64 n n (by omega) (by omega) (by rw [hz2]; omega) (by omega)
  simp only [hz1] at hmk
  have HO := hid hO
  have HPX := hid hpx
  have B0 := hid (fun m => below_drewN (Below.refl w.heap.size w) m)
  clear hI hP hO hn hpx hi hz0 hz1 hz2
  go_enter Try.func97, Try.ntmps97
  go_wp2_with fail
  refine gm.mono ?_
  rintro e w1 ⟨rfl, rfl⟩
  clear gm
  go_wp2_with fail
  go_quiet ((first | (go_at_call 74; exact (gw _).mono fun _ _ hh => ⟨hh.1, _, hh.2.symm⟩) | (go_at_call 71; exact (gh _).mono fun _ _ hh => ⟨hh.1, _, hh.2.symm⟩)))
  have HMK := hid hmk
  generalize hw1' : w.drewN _ = w1 at *
  have A1 := hid (Arr.made w1 5 (.int .u8 0) n)
  have HB1 := hid (show Below w.heap.size w w1 from by rw [← hw1']; exact B0.out _)
  have B1 := hid (HB1.out.alloc HB1.out.size (.cells (madeCells #[.int .u8 0] n) 5))
  have hmk1 := HMK.out w1
  clear hw1' hmk gw gh m1 m2 m3
  go_wp2_with fail
  generalize w1.alloc (.cells (madeCells #[.int .u8 0] n) 5) = w2 at *
  clear hmk1
  obtain ⟨b, hb⟩ : ∃ b, b = w1.heap.size := ⟨_, rfl⟩
  rw [← hb] at A1 ⊢
  have hbw : w.heap.size ≤ b := by rw [hb]; exact HB1.out.size
  clear hb
  have HE : Hid (List.replicate n (Value.int .u8 0) = (bytesOf n fun k => 255 - px k).take 0 ++ List.replicate (n - 0) (.int .u8 0)) := hid (by simp)
  go_loopw [6] (fun iv wr => ∃ k : Nat, k ≤ n ∧ iv = .int .i64 k ∧ Hid (Arr wr b 5 ((bytesOf n fun k => 255 - px k).take k ++ List.replicate (n - k) (.int .u8 0))) ∧ Hid (Below w.heap.size w wr)) (fun iv _ => n - (intOf iv).toNat)
  case atStart => exact ⟨0, by omega, rfl, hid (by rw [← HE.out]; exact A1.out), B1⟩
  case round =>
    obtain ⟨k, hk, rfl, hA, hBl⟩ := hrel
    by_cases hlt : k < n
    · have hlt2 : (k : Int) < (n : Int) := by omega
      have hx := HPX.out k
      have hcell := (hBl.out.cell (p := ⟨g, k, none⟩) hgl).trans (HO.out k hlt)
      have hset := hid (fill_get (bytesOf n fun k => 255 - px k) (.int .u8 0) n k (bytesOf_length _ _) hlt _ (bytesOf_at n _ k hlt))
      obtain ⟨v0, hv0⟩ := hA.out.has k (by rw [List.length_append, List.length_take, List.length_replicate, bytesOf_length]; omega)
      have fz := hA.out.frozen k
      have HA2 := hid (hA.out.set k (.int .u8 ((255 - px k : Nat) : Int)))
      rw [hset.out] at HA2
      have HB2 := hid (hBl.out.setCell (p := ⟨b, k, none⟩) hbw (.int .u8 ((255 - px k : Nat) : Int)))
      have hand := u8_255 (px k) hx
      have hsub : (255 : Int) - (px k : Nat) = ((255 - px k : Nat) : Int) := by omega
      clear hset
      generalize px k = x at *
      go_wp2_with fail
      go_roundw
      case rel => exact ⟨k + 1, by omega, by go_num, HA2, HB2⟩
      case measure => simp [intOf]; omega
    · obtain rfl : k = n := by omega
      go_wp2_with fail
      go_ret
      refine ⟨b, rfl, ?_, hBl.out⟩
      have := hA.out
      rw [Nat.sub_self, List.replicate_zero, List.append_nil, List.take_of_length_le (by rw [bytesOf_length]; omega)] at this
      exact this
end Go.Proofs.Ytkonepeejhgloaa
