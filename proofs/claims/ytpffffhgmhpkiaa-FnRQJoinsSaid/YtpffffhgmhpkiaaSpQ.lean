/- QR codes: laws.qrBytes, qrName; spec.QRSaid. -/
import Derived.Test.YtpffffhgmhpkiaaSpO
import Derived.Deep.QuietTactic
import Derived.BigQuiet
namespace Go.Proofs.Ytpffffhgmhpkiaa
open Go.RowKit
set_option linter.unusedVariables false
set_option linter.unusedSimpArgs false

set_option maxRecDepth 20000 in
set_option maxHeartbeats 4000000 in
theorem sameBytesQ (A1 A2 : Option Addr) (n c1 c2 : Nat) (W : List Nat) (w : World) (h1 : Rd w A1 n (u8s W)) (h2 : Rd w A2 n (u8s W)) (hW : ∀ x ∈ W, x < 256) (hn : n ≤ 4000) :
    Calls Try.prog 24 #[.slice A1 n c1, .slice A2 n c2] w fun e w' => e = .returned (.bool true) ∧ ∃ k, w' = w.drewN k := by
  have hl : n = W.length := by have := h1.1; rw [u8s_len] at this; exact this.symm
  have HL := hid hl
  have H1 := hid h1
  have H2 := hid h2
  have HW := hid hW
  clear hl h1 h2 hW
  go_enter Try.func24, Try.ntmps24
  go_wp2_with fail
  go_loopw [13] (fun iv wr => ∃ i m : Nat, i ≤ n ∧ iv = .int .i64 (i : Nat) ∧ w.drewN m = wr) (fun iv _ => n - (intOf iv).toNat)
  case atStart => exact ⟨0, 0, by omega, rfl, rfl⟩
  case round =>
    obtain ⟨i, m, hi, rfl, rfl⟩ := hrel
    by_cases hlt : i < n
    · have hlt' : (i : Int) < (n : Int) := by omega
      have hi0 : (0 : Int) ≤ (i : Int) := by omega
      obtain ⟨b1, o1, rfl, hb1, hc1⟩ := (H1.out.drewN m).2 (by omega)
      obtain ⟨b2, o2, rfl, hb2, hc2⟩ := (H2.out.drewN m).2 (by omega)
      have hiW : i < W.length := by rw [← HL.out]; exact hlt
      have d1 := hc1 i (by rw [u8s_len]; exact hiW)
      have d2 := hc2 i (by rw [u8s_len]; exact hiW)
      simp only [u8s, List.getElem_map] at d1 d2
      have hx := HW.out _ (List.getElem_mem hiW)
      generalize W[i]'hiW = x at *
      clear hc1 hc2 hiW
      generalize hwm : w.drewN m = wm at *
      have HWM := hid hwm
      clear hwm
      go_wp2_with fail
      go_quiet (fail)
      go_wp2_with fail
      go_roundw
      case rel => first | exact ⟨i + 1, m + nq, by omega, by go_num, by rw [← HWM.out, World.drewN_drewN]⟩ | ((repeat apply Exists.intro); exact ⟨⟨i + 1, m + nq, by omega, rfl, by rw [← HWM.out, World.drewN_drewN]⟩, rfl⟩)
      case measure => first | (simp [intOf]; done) | (simp [intOf]; omega)
    · obtain rfl : i = n := by omega
      have hlt' : ¬ (i : Int) < (i : Int) := by omega
      go_wp2_with fail
      go_ret
      exact ⟨rfl, m, rfl⟩
set_option maxRecDepth 20000 in
theorem nameQ (l : Nat) (h : l < 4) (w : World) : Calls Try.prog 55 #[.int .i64 l] w fun e w' => e = .returned (.string (lvStr l)) ∧ w = w' := by
  have x0 : ∀ w, (Instr.index 165 (.agg #[.string ⟨#[77]⟩, .string ⟨#[76]⟩, .string ⟨#[72]⟩, .string ⟨#[81]⟩]) (.int .i64 0)).run Try.prog w = .ok (.string ⟨#[77]⟩) w := fun _ => by kernel_rfl
  have x1 : ∀ w, (Instr.index 165 (.agg #[.string ⟨#[77]⟩, .string ⟨#[76]⟩, .string ⟨#[72]⟩, .string ⟨#[81]⟩]) (.int .i64 1)).run Try.prog w = .ok (.string ⟨#[76]⟩) w := fun _ => by kernel_rfl
  have x2 : ∀ w, (Instr.index 165 (.agg #[.string ⟨#[77]⟩, .string ⟨#[76]⟩, .string ⟨#[72]⟩, .string ⟨#[81]⟩]) (.int .i64 2)).run Try.prog w = .ok (.string ⟨#[72]⟩) w := fun _ => by kernel_rfl
  have x3 : ∀ w, (Instr.index 165 (.agg #[.string ⟨#[77]⟩, .string ⟨#[76]⟩, .string ⟨#[72]⟩, .string ⟨#[81]⟩]) (.int .i64 3)).run Try.prog w = .ok (.string ⟨#[81]⟩) w := fun _ => by kernel_rfl
  obtain rfl | rfl | rfl | rfl : l = 0 ∨ l = 1 ∨ l = 2 ∨ l = 3 := by omega
  all_goals (
    go_enter Try.func55, Try.ntmps55
    go_wp2_with fail
    go_ret
    exact ⟨rfl, rfl⟩)
theorem u8s_append (a b : List Nat) : u8s (a ++ b) = u8s a ++ u8s b := by simp [u8s]
def Prn (s : List Nat) : Prop := ∀ c ∈ s, 32 ≤ c ∧ c ≤ 126
def SaidOut (X : List Nat) (w : World) (e : Ending) (w' : World) : Prop := e = .returned (.tuple #[.string (strOf X), .bool true]) ∧ Below w.heap.size w w'
theorem text_take (S : List (Nat × List Nat)) (i : Nat) (h : i < S.length) : textOf (S.take (i + 1)) = textOf (S.take i) ++ (S.getD i (0, [])).2 := by
  rw [List.take_succ_eq_append_getElem h, textOf, List.flatMap_append, List.getD, List.getElem?_eq_getElem h]
  simp [textOf]
set_option maxRecDepth 20000 in
set_option maxHeartbeats 8000000 in
theorem saidQ (S : List (Nat × List Nat)) (A : Option Addr) (n c : Nat) (w : World) (hM : SegM w A n S) (hS : ∀ x ∈ S, SegOk x ∧ Prn x.2) (hSl : S.length ≤ 4) :
    Calls Try.prog 54 #[.slice A n c] w (SaidOut (textOf S) w) := by
  obtain ⟨i5, gi, gz0, gz1, gz2⟩ := info_of info5
  have HM := hid hM
  have HN := hid hM.1
  have HS := hid hS
  have hn4 : n ≤ 4 := by rw [← hM.1]; exact hSl
  clear hM hS
  go_enter Try.func54, Try.ntmps54
  go_wp2_with fail
  go_loopw [4, 11] (fun ov iv wr => ∃ i : Nat, i ≤ n ∧ iv = .int .i64 (i : Nat) ∧ Hid (Own wr w.heap.size 5 ov (u8s (textOf (S.take i)))) ∧ Hid (Below w.heap.size w wr)) (fun _ iv _ => n - (intOf iv).toNat)
  case atStart => exact ⟨0, by omega, rfl, hid (by simpa [textOf, u8s] using Own.nil w w.heap.size 5), hid (Below.refl _ _)⟩
  case round =>
    obtain ⟨i, hi, rfl, HO, HB⟩ := hrel
    have hbr : w.heap.size ≤ wr.heap.size := HB.out.size
    by_cases hlt : i < n
    · have hlt' : (i : Int) < (n : Int) := by omega
      obtain ⟨b, o, hAe, hbl0, hcc⟩ := HM.out.2 (by omega)
      obtain ⟨R, cR, a0, a1', a2', a3⟩ := hcc i hlt
      have a1 := (HB.out.cell (p := ⟨b, o + i * 2, none⟩) hbl0).trans a1'
      have a2 := (HB.out.cell (p := ⟨b, o + i * 2 + 1, none⟩) hbl0).trans a2'
      have hbl := Nat.lt_of_lt_of_le hbl0 hbr
      clear a1' a2'
      have hiS : i < S.length := by rw [HN.out]; exact hlt
      have hmem : S.getD i (0, []) ∈ S := by rw [List.getD, List.getElem?_eq_getElem hiS]; exact List.getElem_mem hiS
      have HSO := hid (HS.out _ hmem)
      have HTK := hid (text_take S i hiS)
      have HLB := hid (show (textOf (S.take i)).length ≤ 800 from by
        have := text_len (S.take i) (fun x hx => (HS.out x (List.mem_of_mem_take hx)).1)
        rw [List.length_take] at this
        omega)
      subst hAe
      obtain ⟨x, hx⟩ : ∃ x, x = S.getD i (0, []) := ⟨_, rfl⟩
      rw [← hx] at a0 a1 a2 a3 HSO HTK
      obtain ⟨m, s⟩ := x
      dsimp only at a0 a1 a2 a3
      obtain ⟨T, hT⟩ : ∃ T, T = textOf (S.take i) := ⟨_, rfl⟩
      rw [← hT] at HO HLB HTK
      obtain ⟨k, hk⟩ : ∃ k, k = s.length := ⟨_, rfl⟩
      rw [← hk] at a0 a2 a3
      have hk200 : k ≤ 200 := by rw [hk]; exact HSO.out.1.len
      have HK := hid hk
      have HR0 := hid a3
      clear hx hmem hcc hT hk a3
      have HO1 := hid (HO.out.alloc (.cells #[.int .i64 (m : Nat), .slice R k cR] 97))
      have HB1 := hid (HB.out.alloc hbr (.cells #[.int .i64 (m : Nat), .slice R k cR] 97))
      have hwl : w.heap.size ≤ (wr.alloc (.cells #[.int .i64 (m : Nat), .slice R k cR] 97)).heap.size := by simp; omega
      go_wp2_with fail
      generalize wr.alloc (.cells #[.int .i64 (m : Nat), .slice R k cR] 97) = w1 at *
      clear a1 a2 HO HB
      go_loopw [4, 18] (fun ov jv wr => ∃ j : Nat, j ≤ k ∧ jv = .int .i64 (j : Nat) ∧ Hid (Own wr w.heap.size 5 ov (u8s (T ++ s.take j))) ∧ Hid (Below w.heap.size w wr) ∧ w.heap.size ≤ wr.heap.size) (fun _ jv _ => k - (intOf jv).toNat)
      case atStart => exact ⟨0, by omega, rfl, hid (by simpa using HO1.out), HB1, hwl⟩
      case round =>
        clear HO1 HB1 hwl
        obtain ⟨j, hj, rfl, HO, HB, hwl⟩ := hrel
        by_cases hjk : j < k
        · have hjk' : (j : Int) < (k : Int) := by omega
          obtain ⟨rb, ro, rfl, hrb, hcr⟩ := (HR0.out.below HB.out).2 (by omega)
          have hjs : j < s.length := by rw [← HK.out]; exact hjk
          have d0 := hcr j (by rw [u8s_len]; exact hjs)
          simp only [u8s, List.getElem_map] at d0
          obtain ⟨p1, p2⟩ := HSO.out.2 _ (List.getElem_mem hjs)
          have HSJ := hid (show s.take (j + 1) = s.take j ++ [s[j]'hjs] from List.take_succ_eq_append_getElem hjs)
          generalize s[j]'hjs = x at *
          have f1 : ¬ (126 : Int) < (x : Int) := by omega
          have f2 : ¬ (x : Int) < 32 := by omega
          have HM1 := hid (show (u8s (T ++ s.take j)).length + 1 ≤ maxLen ∧ ((u8s (T ++ s.take j)).length + 1) * 1 ≤ 140737488355328 from by rw [u8s_len, List.length_append, List.length_take]; have := HLB.out; simp only [maxLen]; omega)
          clear hcr hjs
          go_wp2_with ((at_builtin; refine wpList_app _ rfl _ _ 22 rfl w.heap.size 5 i5 _ 1 Try.underlying22 gi gz0 gz1 gz2 rfl _ (u8s (T ++ s.take j)) rfl (HO.out.alloc _) _ 1 1 [.int .u8 ((x : Nat))] rfl (Rd.one' _ _ _ _ (by first | rfl | (simp; done))) (by intro u hu; rw [List.mem_singleton.1 hu]; rfl) HM1.out.1 HM1.out.2 (Nat.le_trans hwl (by simp <;> omega)) ?_))
          intro v7 w7 hO7 hg7 ho7
          have HO7 := hid (show Own w7 w.heap.size 5 v7 (u8s (T ++ s.take (j + 1))) from by rw [HSJ.out, ← List.append_assoc, u8s_append]; exact hO7)
          have HB7 := hid ((HB.out.alloc HB.out.size (.cells #[.int .u8 (x : Nat)] 5)).grown hg7 (by simp; omega) (fun g hg => (HO.out.lt g hg).1))
          have hB7 : w.heap.size ≤ w7.heap.size := Nat.le_trans (Nat.le_trans hwl (by simp)) hg7.size
          clear hO7 hg7 ho7 HO HB
          go_wp2_with fail
          go_roundw
          case rel => first | exact ⟨j + 1, by omega, by go_num, HO7, HB7, hB7⟩ | ((repeat apply Exists.intro); exact ⟨⟨j + 1, by omega, rfl, HO7, HB7, hB7⟩, rfl⟩)
          case measure => first | (simp [intOf]; done) | (simp [intOf]; omega)
        · obtain rfl : j = k := by omega
          have hjk' : ¬ (j : Int) < (j : Int) := by omega
          have HO8 := hid (show Own wr w.heap.size 5 u4 (u8s (textOf (S.take (i + 1)))) from by rw [HTK.out]; have := HO.out; rwa [List.take_of_length_le (by rw [HK.out]; exact Nat.le_refl _)] at this)
          go_wp2_with fail
          go_roundw
          case rel => first | exact ⟨i + 1, by omega, by go_num, HO8, HB⟩ | ((repeat apply Exists.intro); exact ⟨⟨i + 1, by omega, rfl, HO8, HB⟩, rfl⟩)
          case measure => first | (simp [intOf]; done) | (simp [intOf]; omega)
    · obtain rfl : i = n := by omega
      have hlt' : ¬ (i : Int) < (i : Int) := by omega
      have HO2 := hid (show Own wr w.heap.size 5 u4 (u8s (textOf S)) from by have := HO.out; rwa [show S.take i = S from List.take_of_length_le (by rw [HN.out]; exact Nat.le_refl _)] at this)
      obtain ⟨A5, c5, hv5, hcv⟩ := own_str HO2.out
      subst hv5
      go_wp2_with fail
      go_ret2
      exact ⟨rfl, HB.out⟩
end Go.Proofs.Ytpffffhgmhpkiaa
