/- QR codes: laws.qrSays. -/
import Derived.Test.YtpffffhgmhpkiaaSpQ
import Derived.Test.YtpffffhgmhpkiaaSpH
import Derived.Deep.QuietTactic
import Derived.BigQuiet
namespace Go.Proofs.Ytpffffhgmhpkiaa
open Go.RowKit
set_option linter.unusedVariables false
set_option linter.unusedSimpArgs false

theorem bytes_take (S : List (Nat × List Nat)) (i : Nat) (h : i < S.length) : bytesOf (S.take (i + 1)) = bytesOf (S.take i) ++ (if (S.getD i (0, [])).1 = 4 then [(S.getD i (0, [])).2] else []) := by
  rw [List.take_succ_eq_append_getElem h, List.getD, List.getElem?_eq_getElem h]
  unfold bytesOf
  rw [List.filter_append, List.map_append]
  congr 1
  by_cases h4 : S[i].1 = 4
  · simp [h4]
  · simp [h4]
theorem bytes_at (S : List (Nat × List Nat)) (i : Nat) (h : i < S.length) (h4 : (S.getD i (0, [])).1 = 4) : ∃ hl : (bytesOf (S.take i)).length < (bytesOf S).length, (bytesOf S)[(bytesOf (S.take i)).length] = (S.getD i (0, [])).2 := by
  have e1 := bytes_take S i h
  rw [if_pos h4] at e1
  have e2 : bytesOf S = bytesOf (S.take (i + 1)) ++ bytesOf (S.drop (i + 1)) := by
    unfold bytesOf
    rw [← List.map_append, ← List.filter_append, List.take_append_drop]
  rw [e1, List.append_assoc] at e2
  have hl : (bytesOf (S.take i)).length < (bytesOf S).length := by rw [e2]; simp
  refine ⟨hl, ?_⟩
  simp only [e2]
  rw [List.getElem_append_right (Nat.le_refl _)]
  simp
def SaysOut (w : World) (e : Ending) (w' : World) : Prop := e = .returned (.bool true) ∧ Below w.heap.size w w'
set_option maxRecDepth 20000 in
set_option maxHeartbeats 16000000 in
theorem saysQ (S : List (Nat × List Nat)) (A A1 A2 : Option Addr) (n c n1 c1 n2 c2 lv B0 : Nat) (xs : List Value) (w : World) (hM : SegM w A n S) (hS : ∀ x ∈ S, SegOk x ∧ Prn x.2) (hSl : S.length ≤ 4) (hlv : lv < 4)
    (hn2 : n2 = (bytesOf S).length) (hR2 : Rd w A2 n2 xs) (hG : SegG w B0 xs (bytesOf S)) :
    Calls Try.prog 25 #[.agg #[.string (strOf (textOf S)), .slice A1 n1 c1, .slice A2 n2 c2, .string (lvStr lv), .int .i64 0, .int .i64 (-1), .int .i64 (-1), .int .i64 1], .slice A n c, .int .i64 lv] w (SaysOut w) := by
  have sd := fun W (hb : Below w.heap.size w W) => saidQ S A n c W (hM.below hb) hS hSl
  have nq := fun W => nameQ lv hlv W
  have HM := hid hM
  have HN := hid hM.1
  have HS := hid hS
  have HN2 := hid hn2
  have HR2 := hid hR2
  have HG := hid hG
  have hn4 : n ≤ 4 := by rw [← hM.1]; exact hSl
  have hn24 : n2 ≤ 4 := by rw [hn2]; have := bytesOf_len S; omega
  have HBT := hid (fun i h => bytes_take S i h)
  have HBA := hid (fun i h h4 => bytes_at S i h h4)
  obtain ⟨st, hst⟩ : ∃ st, st = strOf (textOf S) := ⟨_, rfl⟩
  unfold SaidOut at sd
  rw [← hst] at sd ⊢
  generalize lvStr lv = ec at *
  have HD := hid (Arr.of_new w 53 #[.string st, .slice A1 n1 c1, .slice A2 n2 c2, .string ec, .int .i64 0, .int .i64 (-1), .int .i64 (-1), .int .i64 1])
  have HB0 := hid ((Below.refl w.heap.size w).alloc (Nat.le_refl _) (.cells #[.string st, .slice A1 n1 c1, .slice A2 n2 c2, .string ec, .int .i64 0, .int .i64 (-1), .int .i64 (-1), .int .i64 1] 53))
  obtain ⟨d, hd⟩ : ∃ d, d = w.heap.size := ⟨_, rfl⟩
  have HDD := hid hd
  clear hM hS hn2 hR2 hG hst
  go_enter Try.func25, Try.ntmps25
  go_wp2_with fail
  rw [← hd] at HD ⊢
  clear hd
  refine (sd _ HB0.out).mono ?_
  rintro e w1 ⟨rfl, hb1⟩
  have HD1 := hid (HD.out.below hb1 HD.out.lt)
  have HB1 := hid (HB0.out.trans (hb1.mono HB0.out.size))
  clear sd hb1 HD HB0
  have q0 := HD1.out.cell? 0
  have q2 := HD1.out.cell? 2
  have q3 := HD1.out.cell? 3
  simp only [List.getElem?_cons_zero, List.getElem?_cons_succ] at q0 q2 q3
  go_wp2_with fail
  go_quiet ((go_at_call 55; exact (nq _).mono fun _ _ hh => ⟨hh.1, _, hh.2.symm⟩))
  have HD2 := hid (HD1.out.drewN nq)
  have HB2 := hid (below_drewN HB1.out nq)
  generalize w1.drewN nq = w2 at *
  clear HD1 HB1 q0 q2 q3 nq
  go_wp2_with fail
  go_loopw [9, 30] (fun av iv wr => ∃ i a : Nat, i ≤ n ∧ iv = .int .i64 (i : Nat) ∧ av = .int .i64 (a : Nat) ∧ Hid (a = (bytesOf (S.take i)).length) ∧ Hid (Below w.heap.size w wr) ∧ Hid (Arr wr d 53 [.string st, .slice A1 n1 c1, .slice A2 n2 c2, .string ec, .int .i64 0, .int .i64 (-1), .int .i64 (-1), .int .i64 1])) (fun _ iv _ => n - (intOf iv).toNat)
  case atStart => exact ⟨0, 0, by omega, rfl, rfl, hid (by simp [bytesOf]), HB2, HD2⟩
  case round =>
    clear HB2 HD2
    obtain ⟨i, a, hi, rfl, rfl, HAt, HB, HD⟩ := hrel
    have q2 := HD.out.cell? 2
    simp only [List.getElem?_cons_zero, List.getElem?_cons_succ] at q2
    have hdl := HD.out.lt
    by_cases hlt : i < n
    · have hlt' : (i : Int) < (n : Int) := by omega
      obtain ⟨b, o, hAe, hbl0, hcc⟩ := HM.out.2 (by omega)
      obtain ⟨R, cR, a0, a1', a2', a3⟩ := hcc i hlt
      have a1 := (HB.out.cell (p := ⟨b, o + i * 2, none⟩) hbl0).trans a1'
      have a2 := (HB.out.cell (p := ⟨b, o + i * 2 + 1, none⟩) hbl0).trans a2'
      have hbl := Nat.lt_of_lt_of_le hbl0 HB.out.size
      have hiS : i < S.length := by rw [HN.out]; exact hlt
      have hmem : S.getD i (0, []) ∈ S := by rw [List.getD, List.getElem?_eq_getElem hiS]; exact List.getElem_mem hiS
      have HSO := hid (HS.out _ hmem)
      have HTK := hid (HBT.out i hiS)
      have HTA := hid (fun h4 => HBA.out i hiS h4)
      subst hAe
      obtain ⟨x, hx⟩ : ∃ x, x = S.getD i (0, []) := ⟨_, rfl⟩
      rw [← hx] at a0 a1 a2 a3 HSO HTK HTA
      obtain ⟨m, s⟩ := x
      dsimp only at a0 a1 a2 a3 HTK HTA
      obtain ⟨k, hk⟩ : ∃ k, k = s.length := ⟨_, rfl⟩
      rw [← hk] at a0 a2 a3
      have hk200 : k ≤ 200 := by rw [hk]; exact HSO.out.1.len
      have HK := hid hk
      have HR0 := hid a3
      clear hx hmem hcc hk a3 a1' a2'
      have HB1 := hid (HB.out.alloc HB.out.size (.cells #[.int .i64 (m : Nat), .slice R k cR] 97))
      have HD1 := hid (HD.out.alloc (.cells #[.int .i64 (m : Nat), .slice R k cR] 97))
      have HA1 := hid (Arr.of_new wr 97 #[.int .i64 (m : Nat), .slice R k cR])
      by_cases h4 : m = 4
      · subst h4
        have HTA := hid (HTA.out rfl)
        have hal : a < n2 := by rw [HAt.out, HN2.out]; exact HTA.out.choose
        have hal' : ¬ (n2 : Int) ≤ (a : Int) := by omega
        have hal2 : (a : Int) < (n2 : Int) := by omega
        obtain ⟨A', c', g1, g2⟩ := HG.out.2 a (by rw [← HN2.out]; exact hal)
        have hbe : (bytesOf S)[a]'(by rw [← HN2.out]; exact hal) = s := by
          obtain ⟨h1, h2⟩ := HTA.out
          have := HAt.out
          subst this
          exact h2
        rw [hbe, ← HK.out] at g1 g2
        obtain ⟨b2, o2, hA2, hb2l, hc2⟩ := HR2.out.2 (by omega)
        have hxa : a < xs.length := by rw [HG.out.1, ← HN2.out]; exact hal
        have d0 := (HB.out.cell (p := ⟨b2, o2 + a, none⟩) hb2l).trans (hc2 a hxa)
        rw [List.getElem?_eq_getElem hxa] at g1
        injection g1 with g1
        rw [g1] at d0
        subst hA2
        have hb2w := Nat.lt_of_lt_of_le hb2l HB.out.size
        have SB := hid (fun V (hb : Below w.heap.size w V) => sameBytesQ A' R k c' cR s V (g2.1.below hb) (HR0.out.below hb) (HSO.out.1.lt) (by omega))
        have e44 : ((4 : Nat) : Int) = 4 := rfl
        have HT2 := hid (show a + 1 = (bytesOf (S.take (i + 1))).length from by rw [HTK.out, if_pos rfl, List.length_append, ← HAt.out]; rfl)
        clear hbe g1 g2 hc2 hxa HTA HTK
        have p1 := HA1.out.cell? 1
        have p0 := HA1.out.cell? 0
        have dd := HD1.out.cell? 2
        simp only [List.getElem?_cons_zero, List.getElem?_cons_succ] at p0 p1 dd
        have d0' := ((Below.refl wr.heap.size wr).alloc (Nat.le_refl _) (.cells #[.int .i64 ((4 : Nat) : Int), .slice R k cR] 97)).cell (p := ⟨b2, o2 + a, none⟩) hb2w |>.trans d0
        go_wp2_with fail
        generalize wr.alloc (.cells #[.int .i64 ((4 : Nat) : Int), .slice R k cR] 97) = w4 at *
        generalize wr.heap.size = bx at *
        clear a1 a2 d0 q2
        go_quiet ((go_at_call 24; exact (SB.out _ (below_drewN HB1.out _)).mono fun _ _ hh => ⟨hh.1, by obtain ⟨k', hk'⟩ := hh.2; exact ⟨_, hk'.trans (World.drewN_drewN _ _ _)⟩⟩))
        have HB5 := hid (below_drewN HB1.out nq)
        have HD5 := hid (HD1.out.drewN nq)
        go_wp2_with fail
        go_roundw
        case rel => first | exact ⟨i + 1, a + 1, by omega, by go_num, by go_num, HT2, HB5, HD5⟩ | ((repeat apply Exists.intro); exact ⟨⟨i + 1, a + 1, by omega, rfl, rfl, HT2, HB5, HD5⟩, rfl⟩)
        case measure => first | (simp [intOf]; done) | (simp [intOf]; omega)
      · have h4' : ((m : Int) == 4) = false := by simp; omega
        have HT2 := hid (show a = (bytesOf (S.take (i + 1))).length from by rw [HTK.out, if_neg h4, List.append_nil]; exact HAt.out)
        clear h4 HTK HTA
        go_wp2_with fail
        go_roundw
        case rel => first | exact ⟨i + 1, a, by omega, by go_num, rfl, HT2, HB1, HD1⟩ | ((repeat apply Exists.intro); exact ⟨⟨i + 1, a, by omega, rfl, rfl, HT2, HB1, HD1⟩, rfl⟩)
        case measure => first | (simp [intOf]; done) | (simp [intOf]; omega)
    · obtain rfl : i = n := by omega
      have hlt' : ¬ (i : Int) < (i : Int) := by omega
      have hae : a = n2 := by rw [HAt.out, HN2.out, show S.take i = S from List.take_of_length_le (by rw [HN.out]; exact Nat.le_refl _)]
      subst hae
      go_wp2_with fail
      go_ret
      exact ⟨by simp, HB.out⟩
end Go.Proofs.Ytpffffhgmhpkiaa
