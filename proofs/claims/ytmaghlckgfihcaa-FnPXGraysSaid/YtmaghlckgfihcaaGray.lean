/- FnPXGrays: the grays of pixels, by the package. -/
import Derived.Test.YtmaghlckgfihcaaPeakL
import Derived.Laws.BytesArg
namespace Go.Proofs.Ytmaghlckgfihcaa
open Go.RowKit
set_option linter.unusedVariables false

theorem info5 : (Try.prog.info? 5).map (fun i => (i.zero, i.size, i.bytes)) = some (some (.int .u8 0), 1, 1) := by kernel_rfl
/-- The gray of a pixel. -/
def gray (p : Nat) : Nat := (p / 65536 + 2 * (p / 256 % 256) + p % 256) / 4
def grays (l : List Nat) : List Value := l.map fun x => .int .u8 (gray x : Nat)
theorem gray_le {p : Nat} (h : p < 16777216) : gray p ≤ 255 := by unfold gray; omega
theorem and_510 (x : Nat) : x &&& 510 = 2 * (x / 2 % 256) := by
  apply Nat.eq_of_testBit_eq
  intro i
  cases i with
  | zero => simp
  | succ i =>
    rw [Nat.testBit_and, Nat.testBit_succ, Nat.testBit_succ, Nat.testBit_succ, show 510 / 2 = 2 ^ 8 - 1 from rfl, show 2 * (x / 2 % 256) / 2 = x / 2 % 2 ^ 8 from by omega, ← Nat.testBit_and, Nat.and_two_pow_sub_one_eq_mod]
theorem and_255 (x : Nat) : x &&& 255 = x % 256 := Nat.and_two_pow_sub_one_eq_mod x 8

theorem fill_get (xs : List Value) (z : Value) (n k : Nat) (hn : xs.length = n) (hk : k < n) (v : Value) (hv : xs[k]? = some v) : (xs.take k ++ List.replicate (n - k) z).set k v = xs.take (k + 1) ++ List.replicate (n - (k + 1)) z := by
  have h1 : (xs.take k).length = k := by rw [List.length_take]; omega
  rw [List.set_append_right _ _ (by omega), h1, Nat.sub_self, show n - k = (n - (k + 1)) + 1 from by omega, List.replicate_succ, List.set_cons_zero, List.take_succ_eq_append_getElem (by omega), List.append_assoc]
  rw [List.getElem?_eq_getElem (by omega)] at hv
  injection hv with hv
  rw [hv]; rfl
theorem rd_nat {w : World} {A : Option Addr} {n : Nat} {l : List Nat} (h : Rd w A n (ints l)) (k : Nat) (hk : k < n) :
    ∃ b o, A = some ⟨b, o, none⟩ ∧ b < w.heap.size ∧ w.cell? ⟨b, o + k, none⟩ = some (.int .i64 (l.getD k 0 : Nat)) := by
  obtain ⟨b, o, hA, hb, hc⟩ := h.2 (by omega)
  have hl : l.length = n := by have := h.1; simpa [ints] using this
  refine ⟨b, o, hA, hb, ?_⟩
  rw [hc k (by rw [ints_length]; omega)]
  simp [ints, List.getD, List.getElem?_eq_getElem (show k < l.length by omega)]

/-- A source of grays is handed back. -/
def SrcOut (wd h n : Nat) (px : List Nat) (w : World) (e : Ending) (w' : World) : Prop :=
  ∃ q b, e = .returned (.iface 83 (.pointer (some ⟨q, 0, none⟩))) ∧ Arr w' q 87 [.int .i64 wd, .int .i64 h, .slice (some ⟨b, 0, none⟩) n n, .int .i64 wd, .int .i64 h, .int .i64 0, .int .i64 0] ∧ Arr w' b 5 (grays px) ∧ Below w.heap.size w w'

set_option maxRecDepth 20000 in
set_option maxHeartbeats 2000000 in
theorem newRGB (wd h n : Nat) (A : Option Addr) (c : Nat) (px : List Nat) (w : World) (hn : Hid (n = wd * h)) (hw1 : 1 ≤ wd) (hh1 : 1 ≤ h) (hw : wd ≤ 60) (hh : h ≤ 60) (hn1 : 1 ≤ n) (hn2 : n ≤ 3600) (hR : Rd w A n (ints px)) (hp : ∀ k, k < n → px.getD k 0 < 16777216) :
    Calls Try.prog 40 #[.int .i64 wd, .int .i64 h, .slice A n c] w (SrcOut wd h n px w) := by
  obtain ⟨i0, hi, hz0, hz1, hz2⟩ := info_parts info5
  have hmul : (wd : Int) * (h : Int) = (n : Int) := by rw [hn.out]; exact (Int.natCast_mul _ _).symm
  have hmk := fun W => run_make (P := Try.prog) W 41 5 i0 (.int .u8 0) Try.underlying41 hi hz0 .i64 .i64 n n (by omega) (by omega) (by rw [hz2]; omega) (by omega)
  simp only [hz1] at hmk
  have hl : px.length = n := by have := hR.1; simpa [ints] using this
  have HL := hid hl
  have HP := hid hp
  have A1 := Arr.made w 5 (.int .u8 0) n
  have e0 : List.replicate n (Value.int .u8 0) = (grays px).take 0 ++ List.replicate (n - 0) (.int .u8 0) := by simp
  rw [e0] at A1
  have B1 : Below w.heap.size w (w.alloc (.cells (madeCells #[.int .u8 0] n) 5)) := (Below.refl _ _).alloc (Nat.le_refl _) _
  clear hl hp hi hz0 hz1 hz2 e0
  go_enter Try.func40, Try.ntmps40
  go_wp2
  generalize w.alloc (.cells (madeCells #[.int .u8 0] n) 5) = w1 at *
  clear hmk
  have HMUL := hid hmul
  go_loopw [13] (fun i wr => ∃ k : Nat, k ≤ n ∧ i = .int .i64 k ∧ Arr wr w.heap.size 5 ((grays px).take k ++ List.replicate (n - k) (.int .u8 0)) ∧ Below w.heap.size w wr) (fun i _ => n - (intOf i).toNat)
  case atStart => exact ⟨0, by omega, rfl, A1, B1⟩
  case round =>
    clear A1 B1
    obtain ⟨k, hk, rfl, hA, hB⟩ := hrel
    have hgl : (grays px).length = n := by simp [grays, HL.out]
    by_cases hlt : k < n
    · have hlt' : (k : Int) < (n : Int) := by omega
      obtain ⟨b, o, rfl, hb, kc⟩ := rd_nat (hR.below hB) k hlt
      have hpk := HP.out k hlt
      obtain ⟨v0, hv0⟩ := hA.has k (by rw [List.length_append, List.length_take, List.length_replicate, hgl]; omega)
      have fz := hA.frozen k
      have HV : (grays px)[k]? = some (.int .u8 (gray (px.getD k 0) : Nat)) := by simp [grays, List.getD, List.getElem?_eq_getElem (show k < px.length by rw [HL.out]; exact hlt)]
      have HS := hid (fill_get (grays px) (.int .u8 0) n k hgl hlt _ HV)
      have hgr := gray_le hpk
      have HG := hid (show gray (px.getD k 0) = (px.getD k 0 / 65536 + 2 * (px.getD k 0 / 256 % 256) + px.getD k 0 % 256) / 4 from rfl)
      generalize gray (px.getD k 0) = G at *
      generalize px.getD k 0 = P at *
      have a1 : bits .and .i64 ((P : Int) / 65536) 255 = ((P / 65536 : Nat) : Int) := by
        have := i64_and (P / 65536) 255 (by omega) (by omega)
        rw [and_255, Nat.mod_eq_of_lt (by omega)] at this
        rw [← this]; congr 1
      have a2 : bits .and .i64 ((P : Int) / 128) 510 = ((2 * (P / 256 % 256) : Nat) : Int) := by
        have := i64_and (P / 128) 510 (by omega) (by omega)
        rw [and_510, Nat.div_div_eq_div_mul] at this
        rw [← this]; congr 1
      have a3 : bits .and .i64 (P : Int) 255 = ((P % 256 : Nat) : Int) := by
        have := i64_and P 255 (by omega) (by omega)
        rw [and_255] at this
        rw [← this]; congr 1
      have hGi : (((P / 65536 : Nat) : Int) + ((2 * (P / 256 % 256) : Nat) : Int) + ((P % 256 : Nat) : Int)) / 4 = (G : Int) := by rw [HG.out]; omega
      have HGI := hid hGi
      have bd1 : P / 65536 ≤ 255 := by omega
      have bd2 : 2 * (P / 256 % 256) ≤ 510 := by omega
      have bd3 : P % 256 ≤ 255 := by omega
      generalize P / 65536 = X at *
      generalize 2 * (P / 256 % 256) = Y at *
      generalize P % 256 = Z at *
      have HA := hid hA
      have HB := hid hB
      clear hA hB HG HV
      go_wp2
      go_roundw
      case rel => exact ⟨k + 1, by omega, by go_num, by rw [← HS.out]; exact HA.out.set k _, HB.out.setCell (Nat.le_refl _) _⟩
      case measure => simp [intOf]; omega
    · obtain rfl : k = n := by omega
      have hlt' : ¬ (k : Int) < (k : Int) := by omega
      have e1 : (grays px).take k ++ List.replicate (k - k) (.int .u8 0) = grays px := by rw [Nat.sub_self, List.take_of_length_le (by omega)]; simp
      rw [e1] at hA
      have HA := hid hA
      have HB := hid hB
      clear hA hB e1
      go_wp2
      go_ret
      exact ⟨_, _, rfl, Arr.of_new wr 87 _, HA.out.alloc _, HB.out.alloc HB.out.size _⟩

theorem getW (q : Nat) (v : Value) (w : World) (wd : Nat) (h0 : w.cell? ⟨q, 0, none⟩ = some (.int .i64 wd)) : Calls Try.prog 79 #[.pointer (some ⟨q, 0, none⟩)] w fun e w' => e = .returned (.int .i64 wd) ∧ w = w' := by
  go_enter Try.func79, Try.ntmps79
  go_wp2
  go_ret
  exact ⟨rfl, rfl⟩
theorem getH (q : Nat) (w : World) (h : Nat) (h0 : w.cell? ⟨q, 1, none⟩ = some (.int .i64 h)) : Calls Try.prog 76 #[.pointer (some ⟨q, 0, none⟩)] w fun e w' => e = .returned (.int .i64 h) ∧ w = w' := by
  go_enter Try.func76, Try.ntmps76
  go_wp2
  go_ret
  exact ⟨rfl, rfl⟩
theorem getM (q b wd h n : Nat) (w : World) (hA : Arr w q 87 [.int .i64 wd, .int .i64 h, .slice (some ⟨b, 0, none⟩) n n, .int .i64 wd, .int .i64 h, .int .i64 0, .int .i64 0]) :
    Calls Try.prog 77 #[.pointer (some ⟨q, 0, none⟩)] w fun e w' => e = .returned (.slice (some ⟨b, 0, none⟩) n n) ∧ w = w' := by
  have d0 := hA.cell? 0
  have d1 := hA.cell? 1
  have d2 := hA.cell? 2
  have d3 := hA.cell? 3
  have d4 := hA.cell? 4
  try simp only at d0 d1 d2 d3 d4
  clear hA
  go_enter Try.func77, Try.ntmps77
  go_wp2_with fail
  refine (getW q (.nilIface) w wd d0).mono ?_
  rintro e w1 ⟨rfl, rfl⟩
  go_wp2_with fail
  refine (getH q w h d1).mono ?_
  rintro e w1 ⟨rfl, rfl⟩
  go_wp2_with fail
  go_ret
  exact ⟨rfl, rfl⟩
theorem nilM (n : Nat) (a : Addr) (w : World) : (nilAhead (n + 1) 83 (.pointer (some a)) "GetMatrix").run Try.prog w = .ok (some false) w := by kernel_rfl
theorem fits_yes (wd h n : Nat) (w : World) (hw : 1 ≤ wd) (hh : 1 ≤ h) (hn : n ≤ 3600) (hw2 : wd ≤ 60) (hh2 : h ≤ 60) (hq : n / wd = h) (hr : n % wd = 0) :
    Calls Try.prog 39 #[.int .i64 wd, .int .i64 h, .int .i64 n] w fun e w' => e = .returned (.bool true) ∧ w = w' := by
  have h1 : (0 : Int) < (wd : Int) := by omega
  have h2 : (0 : Int) < (h : Int) := by omega
  have h3 : (n : Int) / (wd : Int) = (h : Int) := by rw [← hq]; exact (Int.natCast_ediv _ _).symm
  have h4 : (n : Int) % (wd : Int) = 0 := by rw [show (0 : Int) = ((n % wd : Nat) : Int) by rw [hr]; rfl]; exact (Int.natCast_emod _ _).symm
  clear hq hr
  go_enter Try.func39, Try.ntmps39
  go_wp2
  go_ret
  exact ⟨rfl, rfl⟩
end Go.Proofs.Ytmaghlckgfihcaa
