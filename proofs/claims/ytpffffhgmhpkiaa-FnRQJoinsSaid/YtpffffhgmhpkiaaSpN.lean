/- QR codes: spec.QRFits. Printed by gen_n.py. -/
import Derived.Test.YtpffffhgmhpkiaaSpK
namespace Go.Proofs.Ytpffffhgmhpkiaa
open Go.RowKit
set_option linter.unusedVariables false
set_option linter.unusedSimpArgs false
set_option maxRecDepth 20000 in
set_option maxHeartbeats 4000000 in
theorem fits1 (s : List Nat) (A : Option Addr) (n c : Nat) (w : World) (hR : Rd w A n (u8s s)) (hs : Digs s) (hl : s.length ≤ 200) : Calls Try.prog 76 #[.agg #[.int .i64 1, .slice A n c]] w fun e w' => e = .returned (.bool true) ∧ Below w.heap.size w w' := by
  have hn : n = s.length := by have := hR.1; rw [u8s_len] at this; exact this.symm
  have HN := hid hn
  have hn200 : n ≤ 200 := by omega
  have HS := hid hs
  have HR1 := hid (show Rd (w.alloc (.cells #[.int .i64 1, .slice A n c] 97)) A n (u8s s) from hR.alloc _)
  have HBA := hid (Arr.of_new w 97 #[.int .i64 1, .slice A n c])
  have HB := hid ((Below.refl w.heap.size w).alloc (Nat.le_refl _) (.cells #[.int .i64 1, .slice A n c] 97))
  obtain ⟨bx, hbx⟩ : ∃ bx, bx = w.heap.size := ⟨_, rfl⟩
  clear hR hs hn
  go_enter Try.func76, Try.ntmps76
  go_wp2_with fail
  rw [← hbx] at HBA ⊢
  clear hbx
  generalize w.alloc (.cells #[.int .i64 1, .slice A n c] 97) = w1 at *
  go_loopw [8] (fun iv wr => ∃ i : Nat, i ≤ n ∧ iv = .int .i64 (i : Nat) ∧ w1 = wr) (fun iv _ => n - (intOf iv).toNat)
  case atStart => exact ⟨0, by omega, rfl, rfl⟩
  case round =>
    obtain ⟨i, hi, rfl, rfl⟩ := hrel
    have q0 := HBA.out.cell? 0
    have q1 := HBA.out.cell? 1
    simp only [List.getElem?_cons_zero, List.getElem?_cons_succ] at q0 q1
    by_cases hlt : i < n
    · have hlt' : (i : Int) < (n : Int) := by omega
      obtain ⟨b, o, rfl, hb, hcc⟩ := HR1.out.2 (by omega)
      have hil : i < s.length := by rw [← HN.out]; exact hlt
      have c0 := hcc i (by rw [u8s_len]; exact hil)
      simp only [u8s, List.getElem_map] at c0
      have hmem := List.getElem_mem hil
      obtain ⟨d1, d2⟩ := HS.out _ hmem
      clear hmem
      generalize s[i]'hil = x at *
      have f1 : ¬ (x : Int) < 48 := by omega
      have f2 : ¬ (57 : Int) < (x : Int) := by omega
      clear hcc hil
      go_wp2_with fail
      go_roundw
      case rel => first | exact ⟨i + 1, by omega, by go_num, by first | rfl | trivial⟩ | ((repeat apply Exists.intro); exact ⟨⟨i + 1, by omega, rfl, by first | rfl | trivial⟩, rfl⟩)
      case measure => first | (simp [intOf]; done) | (simp [intOf]; omega)
    · obtain rfl : i = n := by omega
      have hlt' : ¬ (i : Int) < (i : Int) := by omega
      go_wp2_with fail
      go_ret
      exact ⟨rfl, HB.out⟩
set_option maxRecDepth 20000 in
set_option maxHeartbeats 4000000 in
theorem fits2 (s : List Nat) (A : Option Addr) (n c : Nat) (w : World) (hR : Rd w A n (u8s s)) (hs : Alphs s) (hl : s.length ≤ 200) : Calls Try.prog 76 #[.agg #[.int .i64 2, .slice A n c]] w fun e w' => e = .returned (.bool true) ∧ Below w.heap.size w w' := by
  have hn : n = s.length := by have := hR.1; rw [u8s_len] at this; exact this.symm
  have HN := hid hn
  have hn200 : n ≤ 200 := by omega
  have HS := hid hs
  have HR1 := hid (show Rd (w.alloc (.cells #[.int .i64 2, .slice A n c] 97)) A n (u8s s) from hR.alloc _)
  have HBA := hid (Arr.of_new w 97 #[.int .i64 2, .slice A n c])
  have HB := hid ((Below.refl w.heap.size w).alloc (Nat.le_refl _) (.cells #[.int .i64 2, .slice A n c] 97))
  obtain ⟨bx, hbx⟩ : ∃ bx, bx = w.heap.size := ⟨_, rfl⟩
  clear hR hs hn
  go_enter Try.func76, Try.ntmps76
  go_wp2_with fail
  rw [← hbx] at HBA ⊢
  clear hbx
  generalize w.alloc (.cells #[.int .i64 2, .slice A n c] 97) = w1 at *
  go_loopw [8] (fun iv wr => ∃ i : Nat, i ≤ n ∧ iv = .int .i64 (i : Nat) ∧ w1 = wr) (fun iv _ => n - (intOf iv).toNat)
  case atStart => exact ⟨0, by omega, rfl, rfl⟩
  case round =>
    obtain ⟨i, hi, rfl, rfl⟩ := hrel
    have q0 := HBA.out.cell? 0
    have q1 := HBA.out.cell? 1
    simp only [List.getElem?_cons_zero, List.getElem?_cons_succ] at q0 q1
    by_cases hlt : i < n
    · have hlt' : (i : Int) < (n : Int) := by omega
      obtain ⟨b, o, rfl, hb, hcc⟩ := HR1.out.2 (by omega)
      have hil : i < s.length := by rw [← HN.out]; exact hlt
      have c0 := hcc i (by rw [u8s_len]; exact hil)
      simp only [u8s, List.getElem_map] at c0
      have hmem := List.getElem_mem hil
      obtain ⟨d1, d2⟩ := HS.out _ hmem
      clear hmem
      generalize s[i]'hil = x at *
      have aq := fun W => alphaQ x d1 W
      rw [show alphI x = ((alph x : Nat) : Int) from by unfold alphI; rw [if_pos d2]] at aq
      generalize alph x = y at *
      have f1 : ¬ (y : Int) < 0 := by omega
      clear hcc hil
      go_wp2_with fail
      refine (aq _).mono ?_
      rintro e w5 ⟨rfl, rfl⟩
      go_wp2_with fail
      go_roundw
      case rel => first | exact ⟨i + 1, by omega, by go_num, by first | rfl | trivial⟩ | ((repeat apply Exists.intro); exact ⟨⟨i + 1, by omega, rfl, by first | rfl | trivial⟩, rfl⟩)
      case measure => first | (simp [intOf]; done) | (simp [intOf]; omega)
    · obtain rfl : i = n := by omega
      have hlt' : ¬ (i : Int) < (i : Int) := by omega
      go_wp2_with fail
      go_ret
      exact ⟨rfl, HB.out⟩
set_option maxRecDepth 20000 in
set_option maxHeartbeats 4000000 in
theorem fits4 (s : List Nat) (A : Option Addr) (n c : Nat) (w : World) (hR : Rd w A n (u8s s)) (hs : Lts s) (hl : s.length ≤ 200) : Calls Try.prog 76 #[.agg #[.int .i64 4, .slice A n c]] w fun e w' => e = .returned (.bool true) ∧ Below w.heap.size w w' := by
  have hn : n = s.length := by have := hR.1; rw [u8s_len] at this; exact this.symm
  have HN := hid hn
  have hn200 : n ≤ 200 := by omega
  have HS := hid hs
  have HR1 := hid (show Rd (w.alloc (.cells #[.int .i64 4, .slice A n c] 97)) A n (u8s s) from hR.alloc _)
  have HBA := hid (Arr.of_new w 97 #[.int .i64 4, .slice A n c])
  have HB := hid ((Below.refl w.heap.size w).alloc (Nat.le_refl _) (.cells #[.int .i64 4, .slice A n c] 97))
  obtain ⟨bx, hbx⟩ : ∃ bx, bx = w.heap.size := ⟨_, rfl⟩
  clear hR hs hn
  go_enter Try.func76, Try.ntmps76
  go_wp2_with fail
  rw [← hbx] at HBA ⊢
  clear hbx
  generalize w.alloc (.cells #[.int .i64 4, .slice A n c] 97) = w1 at *
  go_loopw [8] (fun iv wr => ∃ i : Nat, i ≤ n ∧ iv = .int .i64 (i : Nat) ∧ w1 = wr) (fun iv _ => n - (intOf iv).toNat)
  case atStart => exact ⟨0, by omega, rfl, rfl⟩
  case round =>
    obtain ⟨i, hi, rfl, rfl⟩ := hrel
    have q0 := HBA.out.cell? 0
    have q1 := HBA.out.cell? 1
    simp only [List.getElem?_cons_zero, List.getElem?_cons_succ] at q0 q1
    by_cases hlt : i < n
    · have hlt' : (i : Int) < (n : Int) := by omega
      obtain ⟨b, o, rfl, hb, hcc⟩ := HR1.out.2 (by omega)
      have hil : i < s.length := by rw [← HN.out]; exact hlt
      have c0 := hcc i (by rw [u8s_len]; exact hil)
      simp only [u8s, List.getElem_map] at c0
      have hmem := List.getElem_mem hil
      have d1 := HS.out _ hmem
      clear hmem
      generalize s[i]'hil = x at *
      clear hcc hil
      go_wp2_with fail
      go_roundw
      case rel => first | exact ⟨i + 1, by omega, by go_num, by first | rfl | trivial⟩ | ((repeat apply Exists.intro); exact ⟨⟨i + 1, by omega, rfl, by first | rfl | trivial⟩, rfl⟩)
      case measure => first | (simp [intOf]; done) | (simp [intOf]; omega)
    · obtain rfl : i = n := by omega
      have hlt' : ¬ (i : Int) < (i : Int) := by omega
      go_wp2_with fail
      go_ret
      exact ⟨rfl, HB.out⟩
end Go.Proofs.Ytpffffhgmhpkiaa
