/- azLatches; azWriter.bytes. -/
import Derived.Test.YtliephokeafllaaGreatDoorAzC
import Derived.Laws.BytesArg
namespace Go.Proofs.YtliephokeafllaaGreatDoor
open Go.RowKit
set_option linter.unusedVariables false
set_option linter.unusedSimpArgs false

theorem Fr.alloc {q : Nat} {v v' : Value} {w w' : World} (h : Fr q v w v' w') (o : Obj) : Fr q v w v' (w'.alloc o) := ⟨Nat.le_trans h.1 (by simp), fun g h1 h2 h3 => ⟨(Below.heap_alloc w' o g (Nat.lt_of_lt_of_le h1 h.1)).trans (h.2 g h1 h2 h3).1, (h.2 g h1 h2 h3).2⟩⟩
def ints (l : List Nat) : List Value := l.map fun n => Value.int .i64 (n : Nat)
theorem ints_len (l : List Nat) : (ints l).length = l.length := by simp [ints]
def u8s (l : List Nat) : List Value := l.map fun n => Value.int .u8 (n : Nat)
theorem u8s_len (l : List Nat) : (u8s l).length = l.length := by simp [u8s]
/-- A list of ints in new memory. -/
def PairOut (a b : List Nat) (w : World) (e : Ending) (w' : World) : Prop :=
  ∃ A B c d, e = .returned (.tuple #[.slice (some A) a.length c, .slice (some B) b.length d]) ∧ Rd w' (some A) a.length (ints a) ∧ Rd w' (some B) b.length (ints b) ∧ Below w.heap.size w w' ∧ w.heap.size ≤ A.block ∧ w.heap.size ≤ B.block

set_option maxRecDepth 20000 in
set_option maxHeartbeats 4000000 in
theorem latchesM (m : Nat) (hm : m ≤ 4) (w : World) : Calls Tryz.prog 22 #[.int .i64 (m : Nat)] w (PairOut (latchN m) (latchM m) w) := by
  have fin : ∀ (a b : Array Value) (x y : List Nat), a.toList = ints x → b.toList = ints y → ∀ e, e = Ending.returned (.tuple #[.slice (some ⟨w.heap.size, 0, none⟩) x.length x.length, .slice (some ⟨w.heap.size + 1, 0, none⟩) y.length y.length]) → PairOut x y w e ((w.alloc (.cells a 3)).alloc (.cells b 3)) := by
    intro a b x y ha hb e he
    have h1 : Arr (w.alloc (.cells a 3)) w.heap.size 3 (ints x) := by have := Arr.of_new w 3 a; rwa [ha] at this
    have h2 : Arr ((w.alloc (.cells a 3)).alloc (.cells b 3)) (w.heap.size + 1) 3 (ints y) := by have := Arr.of_new (w.alloc (.cells a 3)) 3 b; rw [hb] at this; simpa using this
    have r1 := (h1.alloc (.cells b 3))
    have q1 := Rd.of_arr r1
    have q2 := Rd.of_arr h2
    rw [ints_len] at q1 q2
    refine ⟨_, _, _, _, he, q1, q2, ?_, Nat.le_refl _, by simp⟩
    exact ((Below.refl _ w).alloc (Nat.le_refl _) _).alloc (by simp) _
  have : m = 0 ∨ m = 1 ∨ m = 2 ∨ m = 3 ∨ m = 4 := by omega
  have FIN := hid fin
  clear fin hm
  rcases this with rfl | rfl | rfl | rfl | rfl
  all_goals
    go_enter Tryz.func22, Tryz.ntmps22
    go_wp2_with fail
    go_ret2
    exact FIN.out _ _ _ _ rfl rfl _ rfl

theorem strOf_nums (l : List Nat) : strOfNums (l.map fun n => ((n : Nat) : Int)) = strOf l := by
  unfold strOfNums strOf
  congr 2
  rw [List.map_map]
  rfl
theorem byte_conv (w W : World) (x : Nat) (h : W.heap.size = w.heap.size) : (convert 22 9 (.slice (some ⟨w.heap.size, 0, none⟩) 1 1)).run Tryz.prog (W.alloc (.cells #[.int .u8 (x : Nat)] 5)) = .ok (.string (strOf [x])) (W.alloc (.cells #[.int .u8 (x : Nat)] 5)) := by
  rw [← h]
  have := run_convert_bytes_arg (P := Tryz.prog) (W.alloc (.cells #[.int .u8 (x : Nat)] 5)) 22 5 Tryz.underlying22 Tryz.underlying5 W.heap.size 0 1 1 [((x : Nat) : Int)] rfl (fun i hi => by
    obtain rfl : i = 0 := by omega
    exact (Arr.of_new W 5 #[.int .u8 (x : Nat)]).cell 0 (by simp)) 9 Tryz.underlying9
  rw [show strOfNums [((x : Nat) : Int)] = strOf [x] from strOf_nums [x]] at this
  exact this
theorem bytes_next (l : List Nat) (i : Nat) (hi : i < l.length) : byteBits (l.take (i + 1)) = byteBits (l.take i) ++ putBits (l.getD i 0 % 128) 8 := by
  unfold byteBits
  rw [List.take_succ_eq_append_getElem hi, List.getD, List.getElem?_eq_getElem hi, List.map_append, List.flatten_append]
  simp only [List.map_cons, List.map_nil, List.flatten_cons, List.flatten_nil, List.append_nil, Option.getD_some]
theorem low_next (l : List Nat) (i : Nat) (hi : i < l.length) : (l.take (i + 1)).map (· % 128) = (l.take i).map (· % 128) ++ [l.getD i 0 % 128] := by
  rw [List.take_succ_eq_append_getElem hi, List.getD, List.getElem?_eq_getElem hi, List.map_append]
  rfl

set_option maxRecDepth 20000 in
set_option maxHeartbeats 8000000 in
theorem bytesM (w : World) (q B : Nat) (v : Value) (s : AzSt) (l : List Nat) (A : Option Addr) (c : Nat) (hR : Rd w A l.length (u8s l)) (h8 : ∀ x ∈ l, x < 256)
    (hap : ∀ ad, A = some ad → ad.block ≠ q ∧ v.ownBlock ≠ some ad.block) (hlen : l.length ≤ 2000)
    (hA : IsAz w q B v s) (hm : s.mode ≤ 4) (hl : s.bits.length ≤ 900000) (hst : s.text.length ≤ 900000) :
    Calls Tryz.prog 25 #[.pointer (some ⟨q, 0, none⟩), .slice A l.length c] w (AzOut q B v (s.bytes l) w) := by
  obtain ⟨N, hN⟩ : ∃ N, N = l.length := ⟨_, rfl⟩
  have HN := hid hN
  have c2 := hA.cells.cell 2 (by simp)
  simp only [List.getElem_cons_zero, List.getElem_cons_succ] at c2
  rw [← hN] at hR hlen ⊢
  clear hN
  by_cases h0 : N = 0
  · subst h0
    have : s.bytes l = s := by unfold AzSt.bytes; rw [if_pos (Or.inl HN.out.symm)]
    rw [this]
    clear hR hap
    go_enter Tryz.func25, Tryz.ntmps25
    go_wp2_with fail
    go_end0
    exact ⟨rfl, v, hA, Below.refl _ _, Fr.refl _ _ _⟩
  by_cases h2 : 2 < s.mode
  · have : s.bytes l = s := by unfold AzSt.bytes; rw [if_pos (Or.inr h2)]
    rw [this]
    have h0' : ¬ (N : Int) = 0 := by omega
    have h2' : (2 : Int) < (s.mode : Nat) := by omega
    clear hR hap
    go_enter Tryz.func25, Tryz.ntmps25
    go_wp2_with fail
    go_end0
    exact ⟨rfl, v, hA, Below.refl _ _, Fr.refl _ _ _⟩
  have h0' : ¬ (N : Int) = 0 := by omega
  have h2' : ¬ (2 : Int) < (s.mode : Nat) := by omega
  obtain ⟨gb, go, rfl, hgb, hcell⟩ := hR.2 (by omega)
  obtain ⟨hgq, hgv⟩ := hap _ rfl
  simp only at hgq hgv
  have HC := hid (show ∀ k, k < N → w.cell? ⟨gb, go + k, none⟩ = some (.int .u8 (l.getD k 0 : Nat)) from fun k hk => by
    have hk' : k < l.length := by rw [← HN.out]; exact hk
    rw [hcell k (by rw [u8s_len]; exact hk')]
    simp only [u8s, List.getElem_map]
    rw [List.getD, List.getElem?_eq_getElem hk']
    rfl)
  clear hcell hap
  have hne : ¬ (l.length = 0 ∨ 2 < s.mode) := by rw [← HN.out]; omega
  have HP1 := hid (putM w q B v s 31 5 (by decide) (by decide) hA (by omega))
  have hlenP : ∀ n k : Nat, k ≤ 11 → ∀ t : AzSt, t.bits.length ≤ 940000 → (t.put n k).bits.length ≤ t.bits.length + 11 := fun n k hk t ht => by simp [AzSt.put, putBits_len]; omega
  have p1 : (s.put 31 5).bits.length ≤ 900011 := by have := hlenP 31 5 (by decide) s (by omega); omega
  have HSA := hid (show ∃ S : AzSt, S.text = s.text ∧ S.mode = s.mode ∧ S.bits.length ≤ 900100 ∧ s.bytes l = ⟨S.bits ++ byteBits l, S.text ++ l.map (· % 128), S.mode⟩ ∧
      ((N < 32 ∧ S = (s.put 31 5).put N 5) ∨ (¬ N < 32 ∧ S = ((s.put 31 5).put 0 5).put (N - 31) 11)) by
    unfold AzSt.bytes
    rw [if_neg hne, ← HN.out]
    by_cases h32 : N < 32
    · have := hlenP N 5 (by decide) (s.put 31 5) (by omega)
      exact ⟨(s.put 31 5).put N 5, rfl, rfl, by omega, by rw [if_pos h32]; simp [AzSt.put, List.append_assoc], .inl ⟨h32, rfl⟩⟩
    · have h1 := hlenP 0 5 (by decide) (s.put 31 5) (by omega)
      have := hlenP (N - 31) 11 (by decide) ((s.put 31 5).put 0 5) (by omega)
      exact ⟨((s.put 31 5).put 0 5).put (N - 31) 11, rfl, rfl, by omega, by rw [if_neg h32]; simp [AzSt.put, List.append_assoc], .inr ⟨h32, rfl⟩⟩)
  clear hlenP
  obtain ⟨S, hSt, hSm, hSl, hSB, hS⟩ := HSA.out
  have HSB := hid hSB
  have HSt := hid hSt
  have HSm := hid hSm
  rw [HSB.out]
  have i9 := info4
  clear HSA hSB hSt hSm hne
  go_enter Tryz.func25, Tryz.ntmps25
  go_wp2_with fail
  refine HP1.out.mono ?_
  rintro e w1 ⟨rfl, v1, hA1, hB1, hF1⟩
  have HA1 := hid hA1
  have HB1 := hid hB1
  have HF1 := hid hF1
  clear hA1 hB1 hF1 HP1
  rcases hS with ⟨h32, hS⟩ | ⟨h32, hS⟩
  case' inl =>
    have HS := hid hS
    clear hS
    have h32' : (N : Int) < 32 := by omega
    have HP2 := hid (putM w1 q B v1 (s.put 31 5) N 5 (by decide) (by omega) HA1.out (by omega))
    go_wp2_with fail
    refine HP2.out.mono ?_
    rintro e w2 ⟨rfl, v2, hA2, hB2, hF2⟩
    rw [← HS.out] at hA2
    have HA2 := hid hA2
    have HB2 := hid (HB1.out.trans hB2)
    have HF2 := hid (HF1.out.trans hF2)
    clear hA2 hB2 hF2 HP2 HA1 HB1 HF1
    clear HS
  case' inr =>
    have HS := hid hS
    clear hS
    have h32' : ¬ (N : Int) < 32 := by omega
    have hsub : (N : Int) - 31 = ((N - 31 : Nat) : Int) := by omega
    have HP2 := hid (putM w1 q B v1 (s.put 31 5) 0 5 (by decide) (by omega) HA1.out (by omega))
    have p2 : ((s.put 31 5).put 0 5).bits.length ≤ 900050 := by simp only [AzSt.put, List.length_append, putBits_len] at p1 ⊢; omega
    go_wp2_with fail
    refine HP2.out.mono ?_
    rintro e w5 ⟨rfl, v5, hA5, hB5, hF5⟩
    have HP3 := hid (putM w5 q B v5 ((s.put 31 5).put 0 5) (N - 31) 11 (by decide) (by omega) hA5 (by omega))
    have HB5 := hid (HB1.out.trans hB5)
    have HF5 := hid (HF1.out.trans hF5)
    clear hA5 hB5 hF5 HP2 HA1 HB1 HF1
    go_wp2_with fail
    refine HP3.out.mono ?_
    rintro e w2 ⟨rfl, v2, hA2, hB2, hF2⟩
    rw [← HS.out] at hA2
    have HA2 := hid hA2
    have HB2 := hid (HB5.out.trans hB2)
    have HF2 := hid (HF5.out.trans hF2)
    clear hA2 hB2 hF2 HP3 HB5 HF5 p2 hsub
    clear HS
  all_goals
    clear p1
    go_wp2_with fail
    go_loopw [4] (fun iv wr => ∃ (i : Nat) (v' : Value), i ≤ N ∧ iv = .int .i64 (i : Nat) ∧ Hid (IsAz wr q B v' ⟨S.bits ++ byteBits (l.take i), S.text ++ (l.take i).map (· % 128), S.mode⟩) ∧ Hid (Below B w wr) ∧ Hid (Fr q v w v' wr)) (fun iv _ => N - (intOf iv).toNat)
    case atStart => exact ⟨0, v2, by omega, rfl, hid (by simpa [byteBits] using HA2.out), HB2, HF2⟩
    case round =>
      obtain ⟨i, v8, hi, rfl, HA8, HB8, HF8⟩ := hrel
      by_cases hlt : i < N
      · have hlt' : (i : Int) < (N : Int) := by omega
        have hlt9 : i < l.length := by rw [← HN.out]; exact hlt
        have HBN := hid (bytes_next l i hlt9)
        have HLN := hid (low_next l i hlt9)
        have hlbb : (byteBits (l.take i)).length ≤ 16000 := by rw [byteBits_len, List.length_take]; omega
        have hltt : ((l.take i).map (· % 128)).length ≤ 2000 := by rw [List.length_map, List.length_take]; omega
        have ci := (World.cell?_of_block (w := w) (HF8.out.2 gb hgb hgq hgv).1).trans (HC.out i hlt)
        have hb8 := Nat.lt_of_lt_of_le hgb HF8.out.1
        have hv8 := (HF8.out.2 gb hgb hgq hgv).2
        obtain ⟨x, hx⟩ : ∃ x, x = l.getD i 0 := ⟨_, rfl⟩
        rw [← hx] at HBN HLN ci
        have hxm : (x : Int) % 128 = ((x % 128 : Nat) : Int) := by omega
        have hy : x % 128 < 128 := Nat.mod_lt _ (by decide)
        generalize x % 128 = y at *
        generalize byteBits (l.take i) = bb at *
        generalize (l.take i).map (· % 128) = tt at *
        have hst8 : (S.text ++ tt).length ≤ 902000 := by rw [List.length_append, HSt.out]; omega
        have HP8 := hid (putM wr q B v8 ⟨S.bits ++ bb, S.text ++ tt, S.mode⟩ y 8 (by decide) (by omega) HA8.out (by simp only [List.length_append]; omega))
        clear hx hlbb hltt hlt9
        have HY := hid hy
        clear hy
        go_wp2_with fail
        refine HP8.out.mono ?_
        rintro e w3 ⟨rfl, v3, hA3, hB3, hF3⟩
        have c3 := (World.cell?_of_block (w := wr) (hF3.2 gb hb8 hgq hv8).1).trans ci
        have c1 := hA3.cells.cell 1 (by simp)
        simp only [List.getElem_cons_zero, List.getElem_cons_succ, AzSt.put] at c1
        have fz := hA3.cells.frozen 1
        have hq3 := hA3.cells.lt
        have HS9 := hid (show _ from (show IsAz (w3.drew.alloc (.cells #[.int .u8 (y : Nat)] 5)) q B v3 (AzSt.put ⟨S.bits ++ bb, S.text ++ tt, S.mode⟩ y 8) from ⟨hA3.cells.alloc _, hA3.own.alloc _, hA3.apart, hA3.le⟩).said [y])
        have HSAP := hid (strOf_app (S.text ++ tt) [y])
        have hcv : (convert 22 9 (.slice (some ⟨w3.heap.size, 0, none⟩) 1 1)).run Tryz.prog (w3.alloc (.cells #[.int .u8 (y : Nat)] 5)).drew = .ok (.string (strOf [y])) (w3.alloc (.cells #[.int .u8 (y : Nat)] 5)).drew := byte_conv w3 w3.drew y rfl
        have HB3 := hid (HB8.out.trans hB3)
        have HF3 := hid (HF8.out.trans hF3)
        have HAL := hid hA3.le
        have z1 : (strOf (S.text ++ tt)).size ≤ 902000 := by rw [strOf_size]; exact hst8
        have z2 : (strOf [y]).size = 1 := strOf_size [y]
        generalize strOf (S.text ++ tt) = st1 at *
        generalize strOf [y] = sy at *
        have z3 : ¬ 9223372036854775807 < st1.size + sy.size := by omega
        clear hA3 hB3 hF3 HA8 HB8 HF8 HP8 hst8 z1 z2 ci
        go_wp2_with fail
        go_region
        go_wp2_with fail
        go_roundw
        case rel =>
          obtain ⟨g1, g2, g3⟩ := HS9.out
          rw [HSAP.out]
          have hW : (w3.drew.alloc (.cells #[.int .u8 (y : Nat)] 5)).setCell ⟨q, 1, none⟩ (.string (strOf (S.text ++ tt ++ [y]))) = ((w3.setCell ⟨q, 1, none⟩ (.string (strOf (S.text ++ tt ++ [y])))).alloc (.cells #[.int .u8 (y : Nat)] 5)).drew := by
            show ((w3.alloc (.cells #[.int .u8 (y : Nat)] 5)).setCell ⟨q, 1, none⟩ (.string (strOf (S.text ++ tt ++ [y])))).drew = _
            rw [World.setCell_alloc_past _ _ _ _ hq3]
          simp only [AzSt.put] at g1 g2 g3
          rw [hW] at g1 g2 g3
          refine ⟨i + 1, v3, by omega, by go_num, hid ?_, hid ((HB3.out.drew.alloc (by have := HAL.out; show B ≤ w3.heap.size; omega) _).trans g2), hid ((HF3.out.alloc _).trans g3)⟩
          rw [HBN.out, HLN.out, ← List.append_assoc, ← List.append_assoc]
          exact g1
        case measure => simp [intOf]; omega
      · obtain rfl : i = N := by omega
        have hlt' : ¬ (i : Int) < (i : Int) := by omega
        go_wp2_with fail
        go_end0
        have h1 := HA8.out
        rw [HN.out, List.take_length] at h1
        exact ⟨rfl, v8, h1, HB8.out, HF8.out⟩
end Go.Proofs.YtliephokeafllaaGreatDoor
