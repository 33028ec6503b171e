/- QR codes: spec.QRData: the data of a segment. Printed by gen_k.py. -/
import Derived.Test.YtpffffhgmhpkiaaSpK0
import Derived.Deep.DrawnRows
import Derived.BigRegion
namespace Go.Proofs.Ytpffffhgmhpkiaa
open Go.RowKit
set_option linter.unusedVariables false
set_option linter.unusedSimpArgs false
attribute [local go_sem ↓] Go.wp_at_zero Go.wp_at_succ
theorem u8wrap (x : Int) : IntKind.u8.wrap x = x % 256 := by
  simp [IntKind.wrap, IntKind.signed, IntKind.bits]
def slLen : Value → Nat
  | .slice _ k _ => k
  | _ => 0
def Lts (s : List Nat) : Prop := ∀ c ∈ s, c < 256
theorem bitsD_cons (n k : Nat) (t : List (Nat × Nat)) : bitsD ((n, k) :: t) = numB n k ++ bitsD t := by simp [bitsD]
set_option maxRecDepth 20000 in
set_option maxHeartbeats 16000000 in
theorem dataQ1 (s : List Nat) (v : Value) (l : List Bool) (B : Nat) (A : Option Addr) (n c : Nat) (w : World) (hO : Own w B 4 v (bools l)) (hR : Rd w A n (u8s s)) (hc : n ≤ c) (hA : 0 < n → ∀ a, A = some a → v.ownBlock ≠ some a.block) (hB : B ≤ w.heap.size) (hs : Digs s) (hl : s.length ≤ 200) (hll : l.length + 2000 ≤ 90000) :
    Calls Try.prog 77 #[v, .agg #[.int .i64 1, .slice A n c]] w (AddOut B (l ++ bitsD (numD s)) v w) := by
  have hn : n = s.length := by have := hR.1; rw [u8s_len] at this; exact this.symm
  have HO := hid hO
  have HR := hid hR
  have HN := hid hn
  have HA := hid hA
  have HS := hid hs
  obtain ⟨X, hX⟩ : ∃ X, X = l ++ bitsD (numD s) := ⟨_, rfl⟩
  have HX := hid hX
  rw [← hX]
  obtain ⟨bx, hbx⟩ : ∃ bx, bx = w.heap.size := ⟨_, rfl⟩
  have HF0 := hid (show Fo v w v (w.alloc (.cells #[.int .i64 1, .slice A n c] 97)) from (Fo.refl _ _).alloc _)
  have HBA := hid (Arr.of_new w 97 #[.int .i64 1, .slice A n c])
  have HO1 := hid (show Own (w.alloc (.cells #[.int .i64 1, .slice A n c] 97)) B 4 v (bools l) from hO.alloc _)
  have HR1 := hid (show Rd (w.alloc (.cells #[.int .i64 1, .slice A n c] 97)) A n (u8s s) from hR.alloc _)
  have HBO := hid (show v.ownBlock ≠ some bx from fun e => by have := (hO.lt bx e).2; omega)
  have HLL := hid (show l.length + 10 * s.length ≤ 90000 from by omega)
  have HNA := hid (fun (s : List Nat) => show (numD s) = (numD s) from rfl)
  clear hO hR hA hs hX HO HR hn
  go_enter Try.func77, Try.ntmps77
  go_wp2_with fail
  rw [← hbx] at HBA ⊢
  have HBX := hid hbx
  clear hbx
  go_loopw [0, 5] (fun ov tv wr => ∃ (A2 : Option Addr) (k c2 : Nat) (s2 : List Nat) (l2 : List Bool), tv = .slice A2 k c2 ∧ k ≤ c2 ∧ Hid (k = s2.length ∧ l2.length + 10 * s2.length ≤ 90000) ∧ Hid (X = l2 ++ bitsD (numD s2)) ∧ Hid (Rd wr A2 k (u8s s2)) ∧ Hid (0 < k → ∀ a, A2 = some a → ov.ownBlock ≠ some a.block) ∧ Hid (Own wr B 4 ov (bools l2)) ∧ Hid (Fo v w ov wr) ∧ Hid (Arr wr bx 97 [.int .i64 1, .slice A n c]) ∧ Hid (ov.ownBlock ≠ some bx) ∧ Hid (Digs s2)) (fun _ tv _ => slLen tv)
  case atStart => exact ⟨A, n, c, s, l, rfl, hc, ⟨HN.out, HLL.out⟩, HX, HR1, HA, HO1, HF0, HBA, HBO, HS⟩
  case round =>
    clear HX HR1 HA HO1 HF0 HBA HBO HS HN HLL
    obtain ⟨A2, k, c2, s2, l2, rfl, hk1, HK, HX, HR, HA, HO, HF, HBA, HBO, HS⟩ := hrel
    have hBr := Nat.le_trans hB HF.out.size
    have q0 := HBA.out.cell? 0
    have q1 := HBA.out.cell? 1
    simp only [List.getElem?_cons_zero, List.getElem?_cons_succ] at q0 q1
    rcases s2 with _ | ⟨x1, _ | ⟨x2, _ | ⟨x3, s3⟩⟩⟩
    · obtain rfl : k = 0 := HK.out.1
      have hX0 : l2 = X := by have := HX.out; simpa [numD, bitsD, byteD] using this.symm
      have HO0 := hid (show Own wr B 4 u0 (bools X) from hX0 ▸ HO.out)
      clear hX0
      go_wp2_with fail
      go_ret
      exact ⟨u0, rfl, HO0.out, HF.out⟩
    · have hkk : k = 1 := HK.out.1
      have hk0 : 1 ≤ k := by omega
      obtain ⟨b, o, rfl, hb, hcc⟩ := HR.out.2 (by omega)
      obtain ⟨A3, hsl, hA3, hR3⟩ := slice_from b o k c2 1 hk0 hk1
      have hsl1 : ∀ W, (Instr.sliceAt 22 (.slice (some ⟨b, o, none⟩) k c2) (some (.int .i64 1)) none none).run Try.prog W = .ok (.slice A3 (k - 1) (c2 - 1)) W := hsl
      have cc0 := hcc 0 (by rw [u8s_len]; simp)
      simp only [u8s, List.map_cons, List.getElem_cons_zero, List.getElem_cons_succ, Nat.add_zero] at cc0
      have hkc : (k : Int) ≤ (c2 : Int) := by omega
      have hki0 : (0 : Int) < (k : Int) := by omega
      have hkj : (1 : Int) ≤ (k : Int) := by omega
      have n3 : ¬ (3 : Int) ≤ (k : Int) := by omega
      have e2 : ((k : Int) == 2) = false := by simp; omega
      obtain ⟨x1a, x1b⟩ := HS.out x1 (by simp)
      obtain ⟨y1, hy1⟩ : ∃ y, y = x1 - 48 := ⟨_, rfl⟩
      have g1 : IntKind.u8.wrap ((x1 : Int) - 48) = (y1 : Int) := by rw [u8wrap]; omega
      have w1 : IntKind.i64.wrap (y1 : Int) = (y1 : Int) := IntWalk.i64_in _ ⟨by omega, by omega⟩
      obtain ⟨z, hz⟩ : ∃ z, z = y1 := ⟨_, rfl⟩
      rw [← hz] at g1 w1
      have HZ := hid (show z = x1 - 48 from by omega)
      have hzl : z < 100000 := by omega
      have HX3 := hid (show X = (l2 ++ numB z 4) ++ bitsD (numD []) from by
        have := HX.out
        rw [this, show numD [x1] = [(z, 4)] from by rw [HZ.out]; rfl, bitsD_cons, ← List.append_assoc]; rfl)
      have HK3 := hid (show k - 1 = ([] : List Nat).length ∧ (l2 ++ numB z 4).length + 10 * ([] : List Nat).length ≤ 90000 from by
        obtain ⟨h1, h2⟩ := HK.out
        simp only [List.length_cons, List.length_append, numB_len, List.length_nil] at h1 h2 ⊢
        omega)
      have HR3 := hid (fun (V : World) (h : Rd V (some ⟨b, o, none⟩) k (u8s ([x1]))) => show Rd V A3 (k - 1) (u8s []) from hR3 V _ h)
      have HS3 := hid (show Digs [] from fun c hc => HS.out c (by simp at hc ⊢))
      have HAB := hid (show u0.ownBlock ≠ some b from HA.out (by omega) _ rfl)
      have HA3 := hid hA3
      have hl2 : l2.length ≤ 100000 := by have := HK.out.2; omega
      have tst := addQ z 4 B u0 l2 wr.drew HO.out.drew (by omega) (by omega) hl2 hBr
      have tst1 : Calls Try.prog 49 #[u0, .int .i64 (z : Nat), .int .i64 4] wr.drew (AddOut B (l2 ++ numB z 4) u0 wr.drew) := tst
      clear tst hsl hcc hA3 hR3 hy1 hz hkk
      go_wp2_with fail
      go_region_with ((first | (go_at_call 49; ((with_reducible refine tst1.mono ?_); rintro e w5 ⟨v5, rfl, hO5, hF5⟩))))
      all_goals (
        go_wp2_with fail
        go_roundw
        case rel =>
          have HFd := hid (show Fo u0 wr v5 w5 from ⟨hF5.os, hF5.tape, hF5.output, hF5.size, hF5.block⟩)
          have hR5 := hid (HR3.out w5 (HR.out.fo HFd.out (fun _ a ha => by injection ha with ha; rw [← ha]; exact HAB.out)))
          have hA5 := hid (show 0 < k - 1 → ∀ a, A3 = some a → v5.ownBlock ≠ some a.block from fun _ a ha => by rw [HA3.out a ha]; exact (HFd.out.block b hb HAB.out).2)
          have hBA5 := hid (show Arr w5 bx 97 [.int .i64 1, .slice A n c] from ((HFd.out.block bx HBA.out.lt HBO.out).1.trans HBA.out))
          have hBO5 := hid (HFd.out.block bx HBA.out.lt HBO.out).2
          first
          | exact ⟨A3, k - 1, c2 - 1, [], _, rfl, by omega, HK3, HX3, hR5, hA5, hid hO5, hid (HF.out.trans HFd.out), hBA5, hBO5, HS3⟩
          | ((repeat apply Exists.intro); exact ⟨⟨A3, k - 1, c2 - 1, [], _, rfl, by omega, HK3, HX3, hR5, hA5, hid hO5, hid (HF.out.trans HFd.out), hBA5, hBO5, HS3⟩, rfl⟩)
        case measure => exact (show k - 1 < k by omega))
    · have hkk : k = 2 := HK.out.1
      have hk0 : 2 ≤ k := by omega
      obtain ⟨b, o, rfl, hb, hcc⟩ := HR.out.2 (by omega)
      obtain ⟨A3, hsl, hA3, hR3⟩ := slice_from b o k c2 2 hk0 hk1
      have hsl1 : ∀ W, (Instr.sliceAt 22 (.slice (some ⟨b, o, none⟩) k c2) (some (.int .i64 2)) none none).run Try.prog W = .ok (.slice A3 (k - 2) (c2 - 2)) W := hsl
      have cc0 := hcc 0 (by rw [u8s_len]; simp)
      have cc1 := hcc 1 (by rw [u8s_len]; simp)
      simp only [u8s, List.map_cons, List.getElem_cons_zero, List.getElem_cons_succ, Nat.add_zero] at cc0 cc1
      have hkc : (k : Int) ≤ (c2 : Int) := by omega
      have hki0 : (0 : Int) < (k : Int) := by omega
      have hki1 : (1 : Int) < (k : Int) := by omega
      have hkj : (2 : Int) ≤ (k : Int) := by omega
      have n3 : ¬ (3 : Int) ≤ (k : Int) := by omega
      have e2 : ((k : Int) == 2) = true := by simp; omega
      obtain ⟨x1a, x1b⟩ := HS.out x1 (by simp)
      obtain ⟨x2a, x2b⟩ := HS.out x2 (by simp)
      obtain ⟨y1, hy1⟩ : ∃ y, y = x1 - 48 := ⟨_, rfl⟩
      have g1 : IntKind.u8.wrap ((x1 : Int) - 48) = (y1 : Int) := by rw [u8wrap]; omega
      have w1 : IntKind.i64.wrap (y1 : Int) = (y1 : Int) := IntWalk.i64_in _ ⟨by omega, by omega⟩
      obtain ⟨y2, hy2⟩ : ∃ y, y = x2 - 48 := ⟨_, rfl⟩
      have g2 : IntKind.u8.wrap ((x2 : Int) - 48) = (y2 : Int) := by rw [u8wrap]; omega
      have w2 : IntKind.i64.wrap (y2 : Int) = (y2 : Int) := IntWalk.i64_in _ ⟨by omega, by omega⟩
      obtain ⟨z2, hz2⟩ : ∃ z, z = 10 * y1 := ⟨_, rfl⟩
      have p2 : IntKind.i64.wrap ((y1 : Int) * 10) = (z2 : Int) := by rw [IntWalk.i64_in _ ⟨by omega, by omega⟩]; omega
      obtain ⟨z, hz⟩ : ∃ z, z = z2 + y2 := ⟨_, rfl⟩
      have p4 : IntKind.i64.wrap ((z2 : Int) + (y2 : Int)) = (z : Int) := by rw [IntWalk.i64_in _ ⟨by omega, by omega⟩]; omega
      have HZ := hid (show z = 10 * (x1 - 48) + (x2 - 48) from by omega)
      have hzl : z < 100000 := by omega
      have HX3 := hid (show X = (l2 ++ numB z 7) ++ bitsD (numD []) from by
        have := HX.out
        rw [this, show numD [x1, x2] = [(z, 7)] from by rw [HZ.out]; rfl, bitsD_cons, ← List.append_assoc]; rfl)
      have HK3 := hid (show k - 2 = ([] : List Nat).length ∧ (l2 ++ numB z 7).length + 10 * ([] : List Nat).length ≤ 90000 from by
        obtain ⟨h1, h2⟩ := HK.out
        simp only [List.length_cons, List.length_append, numB_len, List.length_nil] at h1 h2 ⊢
        omega)
      have HR3 := hid (fun (V : World) (h : Rd V (some ⟨b, o, none⟩) k (u8s ([x1, x2]))) => show Rd V A3 (k - 2) (u8s []) from hR3 V _ h)
      have HS3 := hid (show Digs [] from fun c hc => HS.out c (by simp at hc ⊢))
      have HAB := hid (show u0.ownBlock ≠ some b from HA.out (by omega) _ rfl)
      have HA3 := hid hA3
      have hl2 : l2.length ≤ 100000 := by have := HK.out.2; omega
      have tst := addQ z 7 B u0 l2 wr.drew HO.out.drew (by omega) (by omega) hl2 hBr
      have tst1 : Calls Try.prog 49 #[u0, .int .i64 (z : Nat), .int .i64 7] wr.drew (AddOut B (l2 ++ numB z 7) u0 wr.drew) := tst
      clear tst hsl hcc hA3 hR3 hy1 hy2 hz2 hz hkk
      go_wp2_with fail
      go_region_with ((first | (go_at_call 49; ((with_reducible refine tst1.mono ?_); rintro e w5 ⟨v5, rfl, hO5, hF5⟩))))
      all_goals (
        go_wp2_with fail
        go_roundw
        case rel =>
          have HFd := hid (show Fo u0 wr v5 w5 from ⟨hF5.os, hF5.tape, hF5.output, hF5.size, hF5.block⟩)
          have hR5 := hid (HR3.out w5 (HR.out.fo HFd.out (fun _ a ha => by injection ha with ha; rw [← ha]; exact HAB.out)))
          have hA5 := hid (show 0 < k - 2 → ∀ a, A3 = some a → v5.ownBlock ≠ some a.block from fun _ a ha => by rw [HA3.out a ha]; exact (HFd.out.block b hb HAB.out).2)
          have hBA5 := hid (show Arr w5 bx 97 [.int .i64 1, .slice A n c] from ((HFd.out.block bx HBA.out.lt HBO.out).1.trans HBA.out))
          have hBO5 := hid (HFd.out.block bx HBA.out.lt HBO.out).2
          first
          | exact ⟨A3, k - 2, c2 - 2, [], _, rfl, by omega, HK3, HX3, hR5, hA5, hid hO5, hid (HF.out.trans HFd.out), hBA5, hBO5, HS3⟩
          | ((repeat apply Exists.intro); exact ⟨⟨A3, k - 2, c2 - 2, [], _, rfl, by omega, HK3, HX3, hR5, hA5, hid hO5, hid (HF.out.trans HFd.out), hBA5, hBO5, HS3⟩, rfl⟩)
        case measure => exact (show k - 2 < k by omega))
    · have hk0 : 3 ≤ k := by rw [HK.out.1]; simp
      obtain ⟨b, o, rfl, hb, hcc⟩ := HR.out.2 (by omega)
      obtain ⟨A3, hsl, hA3, hR3⟩ := slice_from b o k c2 3 hk0 hk1
      have hsl1 : ∀ W, (Instr.sliceAt 22 (.slice (some ⟨b, o, none⟩) k c2) (some (.int .i64 3)) none none).run Try.prog W = .ok (.slice A3 (k - 3) (c2 - 3)) W := hsl
      have cc0 := hcc 0 (by rw [u8s_len]; simp)
      have cc1 := hcc 1 (by rw [u8s_len]; simp)
      have cc2 := hcc 2 (by rw [u8s_len]; simp)
      simp only [u8s, List.map_cons, List.getElem_cons_zero, List.getElem_cons_succ, Nat.add_zero] at cc0 cc1 cc2
      have hkc : (k : Int) ≤ (c2 : Int) := by omega
      have hki0 : (0 : Int) < (k : Int) := by omega
      have hki1 : (1 : Int) < (k : Int) := by omega
      have hki2 : (2 : Int) < (k : Int) := by omega
      have hkj : (3 : Int) ≤ (k : Int) := by omega
      obtain ⟨x1a, x1b⟩ := HS.out x1 (by simp)
      obtain ⟨x2a, x2b⟩ := HS.out x2 (by simp)
      obtain ⟨x3a, x3b⟩ := HS.out x3 (by simp)
      obtain ⟨y1, hy1⟩ : ∃ y, y = x1 - 48 := ⟨_, rfl⟩
      have g1 : IntKind.u8.wrap ((x1 : Int) - 48) = (y1 : Int) := by rw [u8wrap]; omega
      have w1 : IntKind.i64.wrap (y1 : Int) = (y1 : Int) := IntWalk.i64_in _ ⟨by omega, by omega⟩
      obtain ⟨y2, hy2⟩ : ∃ y, y = x2 - 48 := ⟨_, rfl⟩
      have g2 : IntKind.u8.wrap ((x2 : Int) - 48) = (y2 : Int) := by rw [u8wrap]; omega
      have w2 : IntKind.i64.wrap (y2 : Int) = (y2 : Int) := IntWalk.i64_in _ ⟨by omega, by omega⟩
      obtain ⟨y3, hy3⟩ : ∃ y, y = x3 - 48 := ⟨_, rfl⟩
      have g3 : IntKind.u8.wrap ((x3 : Int) - 48) = (y3 : Int) := by rw [u8wrap]; omega
      have w3 : IntKind.i64.wrap (y3 : Int) = (y3 : Int) := IntWalk.i64_in _ ⟨by omega, by omega⟩
      obtain ⟨z1, hz1⟩ : ∃ z, z = 100 * y1 := ⟨_, rfl⟩
      have p1 : IntKind.i64.wrap ((y1 : Int) * 100) = (z1 : Int) := by rw [IntWalk.i64_in _ ⟨by omega, by omega⟩]; omega
      obtain ⟨z2, hz2⟩ : ∃ z, z = 10 * y2 := ⟨_, rfl⟩
      have p2 : IntKind.i64.wrap ((y2 : Int) * 10) = (z2 : Int) := by rw [IntWalk.i64_in _ ⟨by omega, by omega⟩]; omega
      obtain ⟨z3, hz3⟩ : ∃ z, z = z1 + z2 := ⟨_, rfl⟩
      have p3 : IntKind.i64.wrap ((z1 : Int) + (z2 : Int)) = (z3 : Int) := by rw [IntWalk.i64_in _ ⟨by omega, by omega⟩]; omega
      obtain ⟨z, hz⟩ : ∃ z, z = z3 + y3 := ⟨_, rfl⟩
      have p4 : IntKind.i64.wrap ((z3 : Int) + (y3 : Int)) = (z : Int) := by rw [IntWalk.i64_in _ ⟨by omega, by omega⟩]; omega
      have HZ := hid (show z = 100 * (x1 - 48) + 10 * (x2 - 48) + (x3 - 48) from by omega)
      have hzl : z < 100000 := by omega
      have HX3 := hid (show X = (l2 ++ numB z 10) ++ bitsD (numD s3) from by
        have := HX.out
        rw [this, show numD (x1 :: x2 :: x3 :: s3) = (z, 10) :: numD s3 from by rw [HZ.out]; rfl, bitsD_cons, ← List.append_assoc])
      have HK3 := hid (show k - 3 = (s3 : List Nat).length ∧ (l2 ++ numB z 10).length + 10 * (s3 : List Nat).length ≤ 90000 from by
        obtain ⟨h1, h2⟩ := HK.out
        simp only [List.length_cons, List.length_append, numB_len, List.length_nil] at h1 h2 ⊢
        omega)
      have HR3 := hid (fun (V : World) (h : Rd V (some ⟨b, o, none⟩) k (u8s ((x1 :: x2 :: x3 :: s3)))) => show Rd V A3 (k - 3) (u8s s3) from hR3 V _ h)
      have HS3 := hid (show Digs s3 from fun c hc => HS.out c (by simp at hc ⊢ <;> simp [hc]))
      have HAB := hid (show u0.ownBlock ≠ some b from HA.out (by omega) _ rfl)
      have HA3 := hid hA3
      have hl2 : l2.length ≤ 100000 := by have := HK.out.2; omega
      have tst := addQ z 10 B u0 l2 wr.drew HO.out.drew (by omega) (by omega) hl2 hBr
      have tst1 : Calls Try.prog 49 #[u0, .int .i64 (z : Nat), .int .i64 10] wr.drew (AddOut B (l2 ++ numB z 10) u0 wr.drew) := tst
      clear tst hsl hcc hA3 hR3 hy1 hy2 hy3 hz1 hz2 hz3 hz
      go_wp2_with fail
      go_region_with ((first | (go_at_call 49; ((with_reducible refine tst1.mono ?_); rintro e w5 ⟨v5, rfl, hO5, hF5⟩))))
      all_goals (
        go_wp2_with fail
        go_roundw
        case rel =>
          have HFd := hid (show Fo u0 wr v5 w5 from ⟨hF5.os, hF5.tape, hF5.output, hF5.size, hF5.block⟩)
          have hR5 := hid (HR3.out w5 (HR.out.fo HFd.out (fun _ a ha => by injection ha with ha; rw [← ha]; exact HAB.out)))
          have hA5 := hid (show 0 < k - 3 → ∀ a, A3 = some a → v5.ownBlock ≠ some a.block from fun _ a ha => by rw [HA3.out a ha]; exact (HFd.out.block b hb HAB.out).2)
          have hBA5 := hid (show Arr w5 bx 97 [.int .i64 1, .slice A n c] from ((HFd.out.block bx HBA.out.lt HBO.out).1.trans HBA.out))
          have hBO5 := hid (HFd.out.block bx HBA.out.lt HBO.out).2
          first
          | exact ⟨A3, k - 3, c2 - 3, s3, _, rfl, by omega, HK3, HX3, hR5, hA5, hid hO5, hid (HF.out.trans HFd.out), hBA5, hBO5, HS3⟩
          | ((repeat apply Exists.intro); exact ⟨⟨A3, k - 3, c2 - 3, s3, _, rfl, by omega, HK3, HX3, hR5, hA5, hid hO5, hid (HF.out.trans HFd.out), hBA5, hBO5, HS3⟩, rfl⟩)
        case measure => exact (show k - 3 < k by omega))
set_option maxRecDepth 20000 in
set_option maxHeartbeats 16000000 in
theorem dataQ2 (s : List Nat) (v : Value) (l : List Bool) (B : Nat) (A : Option Addr) (n c : Nat) (w : World) (hO : Own w B 4 v (bools l)) (hR : Rd w A n (u8s s)) (hc : n ≤ c) (hA : 0 < n → ∀ a, A = some a → v.ownBlock ≠ some a.block) (hB : B ≤ w.heap.size) (hs : Alphs s) (hl : s.length ≤ 200) (hll : l.length + 2000 ≤ 90000) :
    Calls Try.prog 77 #[v, .agg #[.int .i64 2, .slice A n c]] w (AddOut B (l ++ bitsD (alphD s)) v w) := by
  have hn : n = s.length := by have := hR.1; rw [u8s_len] at this; exact this.symm
  have HO := hid hO
  have HR := hid hR
  have HN := hid hn
  have HA := hid hA
  have HS := hid hs
  obtain ⟨X, hX⟩ : ∃ X, X = l ++ bitsD (alphD s) := ⟨_, rfl⟩
  have HX := hid hX
  rw [← hX]
  obtain ⟨bx, hbx⟩ : ∃ bx, bx = w.heap.size := ⟨_, rfl⟩
  have HF0 := hid (show Fo v w v (w.alloc (.cells #[.int .i64 2, .slice A n c] 97)) from (Fo.refl _ _).alloc _)
  have HBA := hid (Arr.of_new w 97 #[.int .i64 2, .slice A n c])
  have HO1 := hid (show Own (w.alloc (.cells #[.int .i64 2, .slice A n c] 97)) B 4 v (bools l) from hO.alloc _)
  have HR1 := hid (show Rd (w.alloc (.cells #[.int .i64 2, .slice A n c] 97)) A n (u8s s) from hR.alloc _)
  have HBO := hid (show v.ownBlock ≠ some bx from fun e => by have := (hO.lt bx e).2; omega)
  have HLL := hid (show l.length + 10 * s.length ≤ 90000 from by omega)
  have HNA := hid (fun (s : List Nat) => show (alphD s) = (alphD s) from rfl)
  clear hO hR hA hs hX HO HR hn
  go_enter Try.func77, Try.ntmps77
  go_wp2_with fail
  rw [← hbx] at HBA ⊢
  have HBX := hid hbx
  clear hbx
  go_loopw [0, 5] (fun ov tv wr => ∃ (A2 : Option Addr) (k c2 : Nat) (s2 : List Nat) (l2 : List Bool), tv = .slice A2 k c2 ∧ k ≤ c2 ∧ Hid (k = s2.length ∧ l2.length + 10 * s2.length ≤ 90000) ∧ Hid (X = l2 ++ bitsD (alphD s2)) ∧ Hid (Rd wr A2 k (u8s s2)) ∧ Hid (0 < k → ∀ a, A2 = some a → ov.ownBlock ≠ some a.block) ∧ Hid (Own wr B 4 ov (bools l2)) ∧ Hid (Fo v w ov wr) ∧ Hid (Arr wr bx 97 [.int .i64 2, .slice A n c]) ∧ Hid (ov.ownBlock ≠ some bx) ∧ Hid (Alphs s2)) (fun _ tv _ => slLen tv)
  case atStart => exact ⟨A, n, c, s, l, rfl, hc, ⟨HN.out, HLL.out⟩, HX, HR1, HA, HO1, HF0, HBA, HBO, HS⟩
  case round =>
    clear HX HR1 HA HO1 HF0 HBA HBO HS HN HLL
    obtain ⟨A2, k, c2, s2, l2, rfl, hk1, HK, HX, HR, HA, HO, HF, HBA, HBO, HS⟩ := hrel
    have hBr := Nat.le_trans hB HF.out.size
    have q0 := HBA.out.cell? 0
    have q1 := HBA.out.cell? 1
    simp only [List.getElem?_cons_zero, List.getElem?_cons_succ] at q0 q1
    rcases s2 with _ | ⟨x1, _ | ⟨x2, s3⟩⟩
    · obtain rfl : k = 0 := HK.out.1
      have hX0 : l2 = X := by have := HX.out; simpa [alphD, bitsD, byteD] using this.symm
      have HO0 := hid (show Own wr B 4 u0 (bools X) from hX0 ▸ HO.out)
      clear hX0
      go_wp2_with fail
      go_ret
      exact ⟨u0, rfl, HO0.out, HF.out⟩
    · have hkk : k = 1 := HK.out.1
      have hk0 : 1 ≤ k := by omega
      obtain ⟨b, o, rfl, hb, hcc⟩ := HR.out.2 (by omega)
      obtain ⟨A3, hsl, hA3, hR3⟩ := slice_from b o k c2 1 hk0 hk1
      have hsl1 : ∀ W, (Instr.sliceAt 22 (.slice (some ⟨b, o, none⟩) k c2) (some (.int .i64 1)) none none).run Try.prog W = .ok (.slice A3 (k - 1) (c2 - 1)) W := hsl
      have cc0 := hcc 0 (by rw [u8s_len]; simp)
      simp only [u8s, List.map_cons, List.getElem_cons_zero, List.getElem_cons_succ, Nat.add_zero] at cc0
      have hkc : (k : Int) ≤ (c2 : Int) := by omega
      have hki0 : (0 : Int) < (k : Int) := by omega
      have hkj : (1 : Int) ≤ (k : Int) := by omega
      have n3 : ¬ (2 : Int) ≤ (k : Int) := by omega
      obtain ⟨x1a, x1b⟩ := HS.out x1 (by simp)
      have AQ1 := hid (fun W => alphaQ x1 x1a W)
      rw [show alphI x1 = ((alph x1 : Nat) : Int) from by unfold alphI; rw [if_pos x1b]] at AQ1
      obtain ⟨y1, hy1⟩ : ∃ y, y = alph x1 := ⟨_, rfl⟩
      rw [← hy1] at AQ1 x1b
      obtain ⟨z, hz⟩ : ∃ z, z = y1 := ⟨_, rfl⟩
      rw [← hz] at AQ1
      have HZ := hid (show z = alph x1 from by rw [← hy1]; exact hz)
      have hzl : z < 100000 := by omega
      have HX3 := hid (show X = (l2 ++ numB z 6) ++ bitsD (alphD []) from by
        have := HX.out
        rw [this, show alphD [x1] = [(z, 6)] from by rw [HZ.out]; rfl, bitsD_cons, ← List.append_assoc]; rfl)
      have HK3 := hid (show k - 1 = ([] : List Nat).length ∧ (l2 ++ numB z 6).length + 10 * ([] : List Nat).length ≤ 90000 from by
        obtain ⟨h1, h2⟩ := HK.out
        simp only [List.length_cons, List.length_append, numB_len, List.length_nil] at h1 h2 ⊢
        omega)
      have HR3 := hid (fun (V : World) (h : Rd V (some ⟨b, o, none⟩) k (u8s ([x1]))) => show Rd V A3 (k - 1) (u8s []) from hR3 V _ h)
      have HS3 := hid (show Alphs [] from fun c hc => HS.out c (by simp at hc ⊢))
      have HAB := hid (show u0.ownBlock ≠ some b from HA.out (by omega) _ rfl)
      have HA3 := hid hA3
      have hl2 : l2.length ≤ 100000 := by have := HK.out.2; omega
      have tst := addQ z 6 B u0 l2 wr.drew HO.out.drew (by omega) (by omega) hl2 hBr
      have tst1 : Calls Try.prog 49 #[u0, .int .i64 (z : Nat), .int .i64 6] wr.drew (AddOut B (l2 ++ numB z 6) u0 wr.drew) := tst
      clear tst hsl hcc hA3 hR3 hy1 hz hkk
      go_wp2_with fail
      go_region_with ((first | (go_at_call 49; ((with_reducible refine tst1.mono ?_); rintro e w5 ⟨v5, rfl, hO5, hF5⟩)) | (go_at_call 74; ((with_reducible refine (AQ1.out _).mono ?_); rintro e w5 ⟨rfl, rfl⟩))))
      all_goals (
        go_wp2_with fail
        go_roundw
        case rel =>
          have HFd := hid (show Fo u0 wr v5 w5 from ⟨hF5.os, hF5.tape, hF5.output, hF5.size, hF5.block⟩)
          have hR5 := hid (HR3.out w5 (HR.out.fo HFd.out (fun _ a ha => by injection ha with ha; rw [← ha]; exact HAB.out)))
          have hA5 := hid (show 0 < k - 1 → ∀ a, A3 = some a → v5.ownBlock ≠ some a.block from fun _ a ha => by rw [HA3.out a ha]; exact (HFd.out.block b hb HAB.out).2)
          have hBA5 := hid (show Arr w5 bx 97 [.int .i64 2, .slice A n c] from ((HFd.out.block bx HBA.out.lt HBO.out).1.trans HBA.out))
          have hBO5 := hid (HFd.out.block bx HBA.out.lt HBO.out).2
          first
          | exact ⟨A3, k - 1, c2 - 1, [], _, rfl, by omega, HK3, HX3, hR5, hA5, hid hO5, hid (HF.out.trans HFd.out), hBA5, hBO5, HS3⟩
          | ((repeat apply Exists.intro); exact ⟨⟨A3, k - 1, c2 - 1, [], _, rfl, by omega, HK3, HX3, hR5, hA5, hid hO5, hid (HF.out.trans HFd.out), hBA5, hBO5, HS3⟩, rfl⟩)
        case measure => exact (show k - 1 < k by omega))
    · have hk0 : 2 ≤ k := by rw [HK.out.1]; simp
      obtain ⟨b, o, rfl, hb, hcc⟩ := HR.out.2 (by omega)
      obtain ⟨A3, hsl, hA3, hR3⟩ := slice_from b o k c2 2 hk0 hk1
      have hsl1 : ∀ W, (Instr.sliceAt 22 (.slice (some ⟨b, o, none⟩) k c2) (some (.int .i64 2)) none none).run Try.prog W = .ok (.slice A3 (k - 2) (c2 - 2)) W := hsl
      have cc0 := hcc 0 (by rw [u8s_len]; simp)
      have cc1 := hcc 1 (by rw [u8s_len]; simp)
      simp only [u8s, List.map_cons, List.getElem_cons_zero, List.getElem_cons_succ, Nat.add_zero] at cc0 cc1
      have hkc : (k : Int) ≤ (c2 : Int) := by omega
      have hki0 : (0 : Int) < (k : Int) := by omega
      have hki1 : (1 : Int) < (k : Int) := by omega
      have hkj : (2 : Int) ≤ (k : Int) := by omega
      obtain ⟨x1a, x1b⟩ := HS.out x1 (by simp)
      obtain ⟨x2a, x2b⟩ := HS.out x2 (by simp)
      have AQ1 := hid (fun W => alphaQ x1 x1a W)
      rw [show alphI x1 = ((alph x1 : Nat) : Int) from by unfold alphI; rw [if_pos x1b]] at AQ1
      obtain ⟨y1, hy1⟩ : ∃ y, y = alph x1 := ⟨_, rfl⟩
      rw [← hy1] at AQ1 x1b
      have AQ2 := hid (fun W => alphaQ x2 x2a W)
      rw [show alphI x2 = ((alph x2 : Nat) : Int) from by unfold alphI; rw [if_pos x2b]] at AQ2
      obtain ⟨y2, hy2⟩ : ∃ y, y = alph x2 := ⟨_, rfl⟩
      rw [← hy2] at AQ2 x2b
      obtain ⟨z2, hz2⟩ : ∃ z, z = 45 * y1 := ⟨_, rfl⟩
      have p2 : IntKind.i64.wrap ((y1 : Int) * 45) = (z2 : Int) := by rw [IntWalk.i64_in _ ⟨by omega, by omega⟩]; omega
      obtain ⟨z, hz⟩ : ∃ z, z = z2 + y2 := ⟨_, rfl⟩
      have p4 : IntKind.i64.wrap ((z2 : Int) + (y2 : Int)) = (z : Int) := by rw [IntWalk.i64_in _ ⟨by omega, by omega⟩]; omega
      have HZ := hid (show z = alph x1 * 45 + alph x2 from by rw [← hy1, ← hy2]; omega)
      have hzl : z < 100000 := by omega
      have HX3 := hid (show X = (l2 ++ numB z 11) ++ bitsD (alphD s3) from by
        have := HX.out
        rw [this, show alphD (x1 :: x2 :: s3) = (z, 11) :: alphD s3 from by rw [HZ.out]; rfl, bitsD_cons, ← List.append_assoc])
      have HK3 := hid (show k - 2 = (s3 : List Nat).length ∧ (l2 ++ numB z 11).length + 10 * (s3 : List Nat).length ≤ 90000 from by
        obtain ⟨h1, h2⟩ := HK.out
        simp only [List.length_cons, List.length_append, numB_len, List.length_nil] at h1 h2 ⊢
        omega)
      have HR3 := hid (fun (V : World) (h : Rd V (some ⟨b, o, none⟩) k (u8s ((x1 :: x2 :: s3)))) => show Rd V A3 (k - 2) (u8s s3) from hR3 V _ h)
      have HS3 := hid (show Alphs s3 from fun c hc => HS.out c (by simp at hc ⊢ <;> simp [hc]))
      have HAB := hid (show u0.ownBlock ≠ some b from HA.out (by omega) _ rfl)
      have HA3 := hid hA3
      have hl2 : l2.length ≤ 100000 := by have := HK.out.2; omega
      have tst := addQ z 11 B u0 l2 wr.drew HO.out.drew (by omega) (by omega) hl2 hBr
      have tst1 : Calls Try.prog 49 #[u0, .int .i64 (z : Nat), .int .i64 11] wr.drew (AddOut B (l2 ++ numB z 11) u0 wr.drew) := tst
      clear tst hsl hcc hA3 hR3 hy1 hy2 hz2 hz
      go_wp2_with fail
      go_region_with ((first | (go_at_call 49; ((with_reducible refine tst1.mono ?_); rintro e w5 ⟨v5, rfl, hO5, hF5⟩)) | (go_at_call 74; ((with_reducible refine (AQ1.out _).mono ?_); rintro e w5 ⟨rfl, rfl⟩)) | (go_at_call 74; ((with_reducible refine (AQ2.out _).mono ?_); rintro e w5 ⟨rfl, rfl⟩))))
      all_goals (
        go_wp2_with fail
        go_roundw
        case rel =>
          have HFd := hid (show Fo u0 wr v5 w5 from ⟨hF5.os, hF5.tape, hF5.output, hF5.size, hF5.block⟩)
          have hR5 := hid (HR3.out w5 (HR.out.fo HFd.out (fun _ a ha => by injection ha with ha; rw [← ha]; exact HAB.out)))
          have hA5 := hid (show 0 < k - 2 → ∀ a, A3 = some a → v5.ownBlock ≠ some a.block from fun _ a ha => by rw [HA3.out a ha]; exact (HFd.out.block b hb HAB.out).2)
          have hBA5 := hid (show Arr w5 bx 97 [.int .i64 2, .slice A n c] from ((HFd.out.block bx HBA.out.lt HBO.out).1.trans HBA.out))
          have hBO5 := hid (HFd.out.block bx HBA.out.lt HBO.out).2
          first
          | exact ⟨A3, k - 2, c2 - 2, s3, _, rfl, by omega, HK3, HX3, hR5, hA5, hid hO5, hid (HF.out.trans HFd.out), hBA5, hBO5, HS3⟩
          | ((repeat apply Exists.intro); exact ⟨⟨A3, k - 2, c2 - 2, s3, _, rfl, by omega, HK3, HX3, hR5, hA5, hid hO5, hid (HF.out.trans HFd.out), hBA5, hBO5, HS3⟩, rfl⟩)
        case measure => exact (show k - 2 < k by omega))
set_option maxRecDepth 20000 in
set_option maxHeartbeats 16000000 in
theorem dataQ4 (s : List Nat) (v : Value) (l : List Bool) (B : Nat) (A : Option Addr) (n c : Nat) (w : World) (hO : Own w B 4 v (bools l)) (hR : Rd w A n (u8s s)) (hc : n ≤ c) (hA : 0 < n → ∀ a, A = some a → v.ownBlock ≠ some a.block) (hB : B ≤ w.heap.size) (hs : Lts s) (hl : s.length ≤ 200) (hll : l.length + 2000 ≤ 90000) :
    Calls Try.prog 77 #[v, .agg #[.int .i64 4, .slice A n c]] w (AddOut B (l ++ bitsD (byteD s)) v w) := by
  have hn : n = s.length := by have := hR.1; rw [u8s_len] at this; exact this.symm
  have HO := hid hO
  have HR := hid hR
  have HN := hid hn
  have HA := hid hA
  have HS := hid hs
  obtain ⟨X, hX⟩ : ∃ X, X = l ++ bitsD (byteD s) := ⟨_, rfl⟩
  have HX := hid hX
  rw [← hX]
  obtain ⟨bx, hbx⟩ : ∃ bx, bx = w.heap.size := ⟨_, rfl⟩
  have HF0 := hid (show Fo v w v (w.alloc (.cells #[.int .i64 4, .slice A n c] 97)) from (Fo.refl _ _).alloc _)
  have HBA := hid (Arr.of_new w 97 #[.int .i64 4, .slice A n c])
  have HO1 := hid (show Own (w.alloc (.cells #[.int .i64 4, .slice A n c] 97)) B 4 v (bools l) from hO.alloc _)
  have HR1 := hid (show Rd (w.alloc (.cells #[.int .i64 4, .slice A n c] 97)) A n (u8s s) from hR.alloc _)
  have HBO := hid (show v.ownBlock ≠ some bx from fun e => by have := (hO.lt bx e).2; omega)
  have HLL := hid (show l.length + 10 * s.length ≤ 90000 from by omega)
  have HNA := hid (fun (s : List Nat) => show (byteD s) = (byteD s) from rfl)
  clear hO hR hA hs hX HO HR hn
  go_enter Try.func77, Try.ntmps77
  go_wp2_with fail
  rw [← hbx] at HBA ⊢
  have HBX := hid hbx
  clear hbx
  go_loopw [0, 5] (fun ov tv wr => ∃ (A2 : Option Addr) (k c2 : Nat) (s2 : List Nat) (l2 : List Bool), tv = .slice A2 k c2 ∧ k ≤ c2 ∧ Hid (k = s2.length ∧ l2.length + 10 * s2.length ≤ 90000) ∧ Hid (X = l2 ++ bitsD (byteD s2)) ∧ Hid (Rd wr A2 k (u8s s2)) ∧ Hid (0 < k → ∀ a, A2 = some a → ov.ownBlock ≠ some a.block) ∧ Hid (Own wr B 4 ov (bools l2)) ∧ Hid (Fo v w ov wr) ∧ Hid (Arr wr bx 97 [.int .i64 4, .slice A n c]) ∧ Hid (ov.ownBlock ≠ some bx) ∧ Hid (Lts s2)) (fun _ tv _ => slLen tv)
  case atStart => exact ⟨A, n, c, s, l, rfl, hc, ⟨HN.out, HLL.out⟩, HX, HR1, HA, HO1, HF0, HBA, HBO, HS⟩
  case round =>
    clear HX HR1 HA HO1 HF0 HBA HBO HS HN HLL
    obtain ⟨A2, k, c2, s2, l2, rfl, hk1, HK, HX, HR, HA, HO, HF, HBA, HBO, HS⟩ := hrel
    have hBr := Nat.le_trans hB HF.out.size
    have q0 := HBA.out.cell? 0
    have q1 := HBA.out.cell? 1
    simp only [List.getElem?_cons_zero, List.getElem?_cons_succ] at q0 q1
    rcases s2 with _ | ⟨x1, s3⟩
    · obtain rfl : k = 0 := HK.out.1
      have hX0 : l2 = X := by have := HX.out; simpa [byteD, bitsD, byteD] using this.symm
      have HO0 := hid (show Own wr B 4 u0 (bools X) from hX0 ▸ HO.out)
      clear hX0
      go_wp2_with fail
      go_ret
      exact ⟨u0, rfl, HO0.out, HF.out⟩
    · have hk0 : 1 ≤ k := by rw [HK.out.1]; simp
      obtain ⟨b, o, rfl, hb, hcc⟩ := HR.out.2 (by omega)
      obtain ⟨A3, hsl, hA3, hR3⟩ := slice_from b o k c2 1 hk0 hk1
      have hsl1 : ∀ W, (Instr.sliceAt 22 (.slice (some ⟨b, o, none⟩) k c2) (some (.int .i64 1)) none none).run Try.prog W = .ok (.slice A3 (k - 1) (c2 - 1)) W := hsl
      have cc0 := hcc 0 (by rw [u8s_len]; simp)
      simp only [u8s, List.map_cons, List.getElem_cons_zero, List.getElem_cons_succ, Nat.add_zero] at cc0
      have hkc : (k : Int) ≤ (c2 : Int) := by omega
      have hki0 : (0 : Int) < (k : Int) := by omega
      have hkj : (1 : Int) ≤ (k : Int) := by omega
      have x1a := HS.out x1 (by simp)
      obtain ⟨z, hz⟩ : ∃ z, z = x1 := ⟨_, rfl⟩
      rw [← hz] at cc0
      have w1 : IntKind.i64.wrap (z : Int) = (z : Int) := IntWalk.i64_in _ ⟨by omega, by omega⟩
      have HZ := hid hz
      have hz256 : z < 256 := by omega
      have hzl : z < 100000 := by omega
      have HX3 := hid (show X = (l2 ++ numB z 8) ++ bitsD (byteD s3) from by
        have := HX.out
        rw [this, show byteD (x1 :: s3) = (z, 8) :: byteD s3 from by rw [HZ.out]; rfl, bitsD_cons, ← List.append_assoc])
      have HK3 := hid (show k - 1 = (s3 : List Nat).length ∧ (l2 ++ numB z 8).length + 10 * (s3 : List Nat).length ≤ 90000 from by
        obtain ⟨h1, h2⟩ := HK.out
        simp only [List.length_cons, List.length_append, numB_len, List.length_nil] at h1 h2 ⊢
        omega)
      have HR3 := hid (fun (V : World) (h : Rd V (some ⟨b, o, none⟩) k (u8s ((x1 :: s3)))) => show Rd V A3 (k - 1) (u8s s3) from hR3 V _ h)
      have HS3 := hid (show Lts s3 from fun c hc => HS.out c (by simp at hc ⊢ <;> simp [hc]))
      have HAB := hid (show u0.ownBlock ≠ some b from HA.out (by omega) _ rfl)
      have HA3 := hid hA3
      have hl2 : l2.length ≤ 100000 := by have := HK.out.2; omega
      have tst := addQ z 8 B u0 l2 wr.drew HO.out.drew (by omega) (by omega) hl2 hBr
      have tst1 : Calls Try.prog 49 #[u0, .int .i64 (z : Nat), .int .i64 8] wr.drew (AddOut B (l2 ++ numB z 8) u0 wr.drew) := tst
      clear tst hsl hcc hA3 hR3 hz
      go_wp2_with fail
      go_region_with ((first | (go_at_call 49; ((with_reducible refine tst1.mono ?_); rintro e w5 ⟨v5, rfl, hO5, hF5⟩))))
      all_goals (
        go_wp2_with fail
        go_roundw
        case rel =>
          have HFd := hid (show Fo u0 wr v5 w5 from ⟨hF5.os, hF5.tape, hF5.output, hF5.size, hF5.block⟩)
          have hR5 := hid (HR3.out w5 (HR.out.fo HFd.out (fun _ a ha => by injection ha with ha; rw [← ha]; exact HAB.out)))
          have hA5 := hid (show 0 < k - 1 → ∀ a, A3 = some a → v5.ownBlock ≠ some a.block from fun _ a ha => by rw [HA3.out a ha]; exact (HFd.out.block b hb HAB.out).2)
          have hBA5 := hid (show Arr w5 bx 97 [.int .i64 4, .slice A n c] from ((HFd.out.block bx HBA.out.lt HBO.out).1.trans HBA.out))
          have hBO5 := hid (HFd.out.block bx HBA.out.lt HBO.out).2
          first
          | exact ⟨A3, k - 1, c2 - 1, s3, _, rfl, by omega, HK3, HX3, hR5, hA5, hid hO5, hid (HF.out.trans HFd.out), hBA5, hBO5, HS3⟩
          | ((repeat apply Exists.intro); exact ⟨⟨A3, k - 1, c2 - 1, s3, _, rfl, by omega, HK3, HX3, hR5, hA5, hid hO5, hid (HF.out.trans HFd.out), hBA5, hBO5, HS3⟩, rfl⟩)
        case measure => exact (show k - 1 < k by omega))
end Go.Proofs.Ytpffffhgmhpkiaa
