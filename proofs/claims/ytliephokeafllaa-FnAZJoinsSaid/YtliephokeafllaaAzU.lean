/- spec.AZPlain; impl.AZText; FnAZJoins. -/
import Derived.Test.YtliephokeafllaaAzT
import Derived.Test.YtliephokeafllaaAzE
namespace Go.Proofs.Ytliephokeafllaa
open Go.RowKit
set_option linter.unusedVariables false
set_option linter.unusedSimpArgs false

theorem bytes_len (s : AzSt) (l : List Nat) : (s.bytes l).bits.length ≤ s.bits.length + 21 + 8 * l.length := by
  unfold AzSt.bytes
  split
  · omega
  · simp only [List.length_append, putBits_len, byteBits_len]
    split
    · simp only [putBits_len]; omega
    · simp only [putBits_len, List.length_append]; omega
theorem plain_len (l : List Nat) : ∀ j, (plainTo l j).bits.length ≤ 600 * j ∧ (plainTo l j).text.length ≤ 62 * j
  | 0 => ⟨Nat.le_refl _, Nat.le_refl _⟩
  | j + 1 => by
    obtain ⟨h1, h2⟩ := plain_len l j
    have h3 := bytes_len (plainTo l j) ((l.drop (62 * j)).take 62)
    have h4 : ((l.drop (62 * j)).take 62).length ≤ 62 := by rw [List.length_take]; omega
    constructor
    · show ((plainTo l j).bytes _).bits.length ≤ _
      omega
    · show ((plainTo l j).bytes _).text.length ≤ _
      unfold AzSt.bytes
      split
      · omega
      · rw [List.length_append, List.length_map]; omega
theorem plain_long (l : List Nat) (hl : 0 < l.length) : ∀ j, 1 ≤ j → 5 ≤ (plainTo l j).bits.length
  | 0, h => by omega
  | 1, _ => by
    show 5 ≤ ((plainTo l 0).bytes ((l.drop (62 * 0)).take 62)).bits.length
    have h4 : 0 < ((l.drop (62 * 0)).take 62).length := by rw [List.length_take, List.length_drop]; omega
    unfold AzSt.bytes
    rw [if_neg (by show ¬ (_ ∨ 2 < 0); omega)]
    simp only [List.length_append, putBits_len]
    omega
  | j + 2, _ => by
    have := plain_long l hl (j + 1) (by omega)
    obtain ⟨c, hc⟩ := bytes_grow (plainTo l (j + 1)) ((l.drop (62 * (j + 1))).take 62)
    show 5 ≤ ((plainTo l (j + 1)).bytes _).bits.length
    rw [hc, List.length_append]
    omega
theorem IsAz.below {w w' : World} {q B : Nat} {v : Value} {s : AzSt} (h : IsAz w q B v s) {C : Nat} (hb : Below C w w') (hC : C = w.heap.size) : IsAz w' q B v s := by
  subst hC
  exact ⟨h.cells.below hb h.cells.lt, h.own.below hb (fun k hk => (h.own.lt k hk).2), h.apart, h.le⟩

set_option maxRecDepth 20000 in
set_option maxHeartbeats 4000000 in
theorem plainM (l : List Nat) (h8 : ∀ c ∈ l, c < 256) (hl : l.length ≤ 100) (w : World) :
    Calls Try.prog 13 #[.string (strOf l)] w (WordsOut (plainTo l ((l.length + 61) / 62)).bits w) := by
  obtain ⟨N, hN⟩ : ∃ N, N = l.length := ⟨_, rfl⟩
  have HN := hid hN
  rw [← hN] at hl ⊢
  clear hN
  obtain ⟨J, hJ⟩ : ∃ J, J = (N + 61) / 62 := ⟨_, rfl⟩
  rw [← hJ]
  have hJ1 : N ≤ 62 * J := by omega
  have hJ2 : 62 * J ≤ N + 61 := by omega
  clear hJ
  obtain ⟨st, hst⟩ : ∃ st, st = strOf l := ⟨_, rfl⟩
  have hsz : st.size = N := by rw [hst, strOf_size, HN.out]
  rw [← hst]
  have HST := hid hst
  clear hst
  have HS0 := hid (show IsAz (w.alloc (.cells #[.slice none 0 0, .string ⟨#[]⟩, .int .i64 0] 56)) w.heap.size w.heap.size (.slice none 0 0) ⟨[], [], 0⟩ from
    ⟨Arr.of_new w 56 #[.slice none 0 0, .string ⟨#[]⟩, .int .i64 0], Own.nil _ _ _, by simp [Value.ownBlock], Nat.le_refl _⟩)
  have HB0 := hid (show Below w.heap.size w (w.alloc (.cells #[.slice none 0 0, .string ⟨#[]⟩, .int .i64 0] 56)) from (Below.refl _ _).alloc (Nat.le_refl _) _)
  go_enter Try.func13, Try.ntmps13
  go_wp2_with fail
  go_loopw [4] (fun iv wr => ∃ (i j : Nat) (v : Value), j ≤ J ∧ i ≤ 62 * j ∧ 62 * j ≤ i ∧ iv = .int .i64 (i : Nat) ∧ Hid (IsAz wr w.heap.size w.heap.size v (plainTo l j)) ∧ Hid (Below w.heap.size w wr)) (fun iv _ => N - (intOf iv).toNat)
  case atStart => exact ⟨0, 0, _, by omega, by omega, by omega, rfl, HS0, HB0⟩
  case round =>
    clear HS0 HB0
    obtain ⟨i, j, v, hj, hi1, hi2, rfl, HA, HB⟩ := hrel
    by_cases hlt : i < N
    case neg =>
      have hlt' : ¬ (i : Int) < (N : Int) := by omega
      obtain rfl : j = J := by omega
      obtain ⟨Ab, cb, hv, _, _⟩ := HA.out.form
      have c0 := HA.out.cells.cell 0 (by simp)
      simp only [List.getElem_cons_zero] at c0
      subst hv
      go_wp2_with fail
      go_ret
      exact ⟨_, rfl, HA.out.own, HB.out⟩
    case pos =>
      have hlt' : (i : Int) < (N : Int) := by omega
      obtain ⟨m, hm⟩ : ∃ m, m = min N (i + 62) := ⟨_, rfl⟩
      have hmn : (if (i : Int) + 62 < (N : Int) then (i : Int) + 62 else (N : Int)) = (m : Nat) := by split <;> omega
      have him : i ≤ m := by omega
      have hmN : m ≤ N := by omega
      have hpc : (l.drop (62 * j)).take 62 = (l.drop i).take (m - i) := by
        rw [show 62 * j = i by omega]
        rcases Nat.lt_or_ge (i + 62) N with h | h
        · rw [show m - i = 62 by omega]
        · rw [List.take_of_length_le (by rw [List.length_drop, ← HN.out]; omega), List.take_of_length_le (by rw [List.length_drop, ← HN.out]; omega)]
      obtain ⟨pc, hpce⟩ : ∃ pc, pc = (l.drop i).take (m - i) := ⟨_, rfl⟩
      have hex : st.extract i m = strOf pc := by rw [HST.out, strOf_ext, hpce]
      have hpl : pc.length ≤ 62 := by rw [hpce, List.length_take]; omega
      have h8p : ∀ x ∈ pc, x < 256 := fun x hx => h8 x (List.mem_of_mem_drop (List.mem_of_mem_take (by rw [← hpce]; exact hx)))
      rw [← hpce] at hpc
      have HNX := hid (show plainTo l (j + 1) = (plainTo l j).bytes pc by rw [plainTo, hpc])
      obtain ⟨cp3, w3, hcv, hR3, hb3, hz3⟩ := str_conv wr pc h8p
      have hps : (strOf pc).size = pc.length := strOf_size pc
      have hmode := plain_mode l j
      have hpln := plain_len l j
      have hgb := HA.out.cells.lt
      have HBY := hid (bytesM w3 w.heap.size w.heap.size v (plainTo l j) pc (some ⟨wr.heap.size, 0, none⟩) cp3 hR3 h8p (fun ad had => by
        injection had with had
        rw [← had]
        refine ⟨by show wr.heap.size ≠ _; omega, fun h => ?_⟩
        have := (HA.out.own.lt _ h).2
        simp at this) (by omega) (HA.out.below hb3 rfl) (by omega) (by omega) (by omega))
      have HB3 := hid (HB.out.trans (hb3.mono (by omega)))
      rw [hps] at hcv
      clear hpc hpce hm hR3 hb3 h8p hmode hpln HA HB
      generalize strOf pc = sp at *
      go_wp2_with fail
      refine HBY.out.mono ?_
      rintro e w4 ⟨rfl, v4, hA4, hB4, hF4⟩
      have HA4 := hid hA4
      have HB4 := hid (HB3.out.trans hB4)
      clear hA4 hB4 hF4 HB3 HBY hcv
      go_wp2_with fail
      go_roundw
      case rel => exact ⟨i + 62, j + 1, v4, by omega, by omega, by omega, by go_num, hid (by rw [HNX.out]; exact HA4.out), HB4⟩
      case measure => simp [intOf]; omega

theorem highM (b : List Bool) (X : List Nat) (A : Option Addr) (c : Nat) (p : Value) (w : World) (hR : Rd w A b.length (b.map Value.bool)) (h5 : 5 ≤ b.length) (hn : b.length ≤ 1000000) (hruns : Runs b X 0 0 0 []) :
    Calls Try.prog 28 #[p, .slice A b.length c] w (TextOut X w) := by
  have H := hid (encodedM b X A c p w hR h5 hn hruns)
  generalize b.length = N at *
  clear hR hruns
  go_enter Try.func28, Try.ntmps28
  go_wp2_with fail
  refine H.out.mono ?_
  rintro e w1 ⟨rfl, hb⟩
  have HB := hid hb
  clear hb H
  go_wp2_with fail
  go_ret2
  exact ⟨rfl, HB.out⟩
/-- A text and a sign that it was read. -/
def SaidOut (X : List Nat) (w : World) (e : Ending) (w' : World) : Prop := e = .returned (.tuple #[.string (strOf X), .bool true]) ∧ Below w.heap.size w w'
theorem newDecM (w : World) : Calls Try.prog 27 #[] w (fun e w' => e = .returned (.pointer (some ⟨w.heap.size, 0, none⟩)) ∧ w' = w.alloc (.cells #[.pointer none] 75)) := by
  go_enter Try.func27, Try.ntmps27
  go_wp2_with fail
  go_ret
  exact ⟨rfl, rfl⟩
set_option maxHeartbeats 2000000 in
theorem textM (b : List Bool) (X : List Nat) (A : Option Addr) (c : Nat) (w : World) (hR : Rd w A b.length (b.map Value.bool)) (h5 : 5 ≤ b.length) (hn : b.length ≤ 1000000) (hruns : Runs b X 0 0 0 []) :
    Calls Try.prog 12 #[.slice A b.length c] w (SaidOut X w) := by
  obtain ⟨i4, hi4, hb0, hb1, hb2⟩ := info_of info4
  have HND := hid (newDecM w)
  have HHI := hid (fun (W : World) (A9 : Option Addr) (c9 : Nat) (p : Value) (h : Rd W A9 b.length (b.map Value.bool)) => highM b X A9 c9 p W h h5 hn hruns)
  have HR1 := hid (hR.alloc (.cells #[.pointer none] 75))
  have hone : ∀ u ∈ b.map Value.bool, u.oneCell' = true := by
    intro u hu
    obtain ⟨x, _, rfl⟩ := List.mem_map.1 hu
    rfl
  have HONE := hid hone
  have hlm : (b.map Value.bool).length = b.length := by simp
  have HLM := hid hlm
  generalize b.map Value.bool = bv at *
  have hnil : Own (w.alloc (.cells #[.pointer none] 75)) w.heap.size 4 (.slice none 0 0) [] := Own.nil _ _ _
  have HNIL := hid hnil
  have m1 := hid (show ([] : List Value).length + b.length ≤ maxLen by simp [maxLen]; omega)
  have m2 := hid (show (([] : List Value).length + b.length) * 1 ≤ 140737488355328 by simp; omega)
  have m3 := hid (show w.heap.size ≤ (w.alloc (.cells #[.pointer none] 75)).heap.size by simp)
  have HB1 := hid (show Below w.heap.size w (w.alloc (.cells #[.pointer none] 75)) from (Below.refl _ _).alloc (Nat.le_refl _) _)
  generalize b.length = N at *
  clear hR hruns hone hlm hnil
  go_enter Try.func12, Try.ntmps12
  go_wp2_with fail
  refine HND.out.mono ?_
  rintro e w1 ⟨rfl, rfl⟩
  generalize w.alloc (.cells #[.pointer none] 75) = w2 at *
  go_wp2_with (at_builtin; refine wpList_app _ rfl _ _ 28 rfl w.heap.size 4 i4 _ 1 Try.underlying28 hi4 hb0 hb1 hb2 rfl _ [] rfl HNIL.out A N c bv rfl HR1.out HONE.out m1.out m2.out m3.out ?_)
  intro v3 w3 hO3 hg3 hown3
  obtain ⟨A3, c3, hv3, hR3, _⟩ := hO3.form
  try simp only [List.nil_append] at hv3 hR3
  rw [HLM.out] at hv3 hR3
  subst hv3
  have HX := hid (HHI.out w3 A3 c3 (.pointer (some ⟨w.heap.size, 0, none⟩)) hR3)
  have HB3 := hid (HB1.out.grown hg3 (by have := m3.out; exact this) (fun k hk => by simp [Value.ownBlock] at hk))
  clear hO3 hg3 hown3 hR3 HND HHI HNIL HB1
  go_wp2_with fail
  refine HX.out.mono ?_
  rintro e w4 ⟨rfl, hb4⟩
  have HB4 := hid (HB3.out.trans (hb4.mono HB3.out.size))
  clear hb4 HX HB3
  go_wp2_with fail
  go_ret2
  exact ⟨rfl, HB4.out⟩

theorem u8s_of' (zs : List Int) (hwf : ∀ n ∈ zs, (Lit.int .u8 n).wf = true) : zs.map (Value.int .u8) = u8s (zs.map Int.toNat) ∧ (∀ x ∈ zs.map Int.toNat, x < 256) := by
  constructor
  · unfold u8s
    rw [List.map_map]
    apply List.map_congr_left
    intro n hn
    have := wf_u8 (hwf n hn)
    show Value.int .u8 n = Value.int .u8 ((n.toNat : Nat) : Int)
    rw [Int.toNat_of_nonneg this.1]
  · intro x hx
    obtain ⟨n, hn, rfl⟩ := List.mem_map.1 hx
    have := wf_u8 (hwf n hn)
    omega
def TrueOut2 (w : World) (e : Ending) (w' : World) : Prop := e = .returned (.bool true) ∧ Below w.heap.size w w'
theorem low_take (a : List Nat) (i : Nat) (hi : i < a.length) : (a.take (i + 1)).map (· % 128) = (a.take i).map (· % 128) ++ [a.getD i 0 % 128] := low_next a i hi
theorem u8s_set (l : List Nat) (k n : Nat) : (u8s l).set k (.int .u8 (n : Nat)) = u8s (l.set k n) := by simp [u8s, List.map_set]
theorem u8s_rep (n : Nat) : List.replicate n (Value.int .u8 0) = u8s (List.replicate n 0) := by simp [u8s]
theorem fill_next (a : List Nat) (n i : Nat) (hi : i < n) (ha : n ≤ a.length) :
    ((a.take i).map (· % 128) ++ List.replicate (n - i) 0).set i (a.getD i 0 % 128) = (a.take (i + 1)).map (· % 128) ++ List.replicate (n - (i + 1)) 0 := by
  rw [low_next a i (by omega)]
  have hl : ((a.take i).map (· % 128)).length = i := by rw [List.length_map, List.length_take]; omega
  rw [List.set_append_right _ _ (by omega), hl, Nat.sub_self, show n - i = (n - (i + 1)) + 1 from by omega, List.replicate_succ, List.set_cons_zero, List.append_assoc]
  rfl
theorem arr_text {w : World} {g : Nat} {l : List Nat} (h : Arr w g 5 (u8s l)) (n c : Nat) (hn : n = l.length) : (convert 22 9 (.slice (some ⟨g, 0, none⟩) n c)).run Try.prog w = .ok (.string (strOf l)) w := by
  subst hn
  have := run_convert_bytes_arg (P := Try.prog) w 22 5 Try.underlying22 Try.underlying5 g 0 l.length c (l.map fun n => ((n : Nat) : Int)) (by simp) (fun i hi => by
    rw [Nat.zero_add, h.cell i (by rw [u8s_len]; exact hi)]
    simp [u8s, List.getD, List.getElem?_eq_getElem hi]) 9 Try.underlying9
  rwa [strOf_nums] at this

set_option maxRecDepth 20000 in
set_option maxHeartbeats 8000000 in
theorem joins_core (w : World) (A1 A2 : Option Addr) (c1 c2 : Nat) (a b : List Nat) (hR1 : Rd w A1 a.length (u8s a)) (h81 : ∀ x ∈ a, x < 256) (hR2 : Rd w A2 b.length (u8s b)) (h82 : ∀ x ∈ b, x < 256) (hcap : b.length ≤ c2) (hlen : c2 ≤ maxLen) :
    Calls Try.prog 4 #[.slice A1 a.length c1, .slice A2 b.length c2] w (TrueOut2 w) := by
  obtain ⟨i5, hi, hz0, hz1, hz2⟩ := info_of info5
  obtain ⟨i4, hi4, hb0, hb1, hb2⟩ := info_of info4
  obtain ⟨N, hN⟩ : ∃ N, N = a.length := ⟨_, rfl⟩
  have HN := hid hN
  rw [← hN] at hR1 ⊢
  obtain ⟨M, hM⟩ : ∃ M, M = b.length := ⟨_, rfl⟩
  have HM := hid hM
  by_cases hbig : 2147483647 < N
  · have hbig' : decide ((2147483647 : Int) < (N : Int)) = true := by simp; omega
    rw [← hM] at hR2 hcap ⊢
    clear hR1 hR2 hN hM
    go_enter Try.func4, Try.ntmps4
    go_wp2_with fail
    go_ret
    exact ⟨rfl, Below.refl _ _⟩
  have hbig' : decide ((2147483647 : Int) < (N : Int)) = false := by simp; omega
  by_cases hbig2 : 2147483647 < M
  · have hbig2' : decide ((2147483647 : Int) < (M : Int)) = true := by simp; omega
    rw [← hM] at hR2 hcap ⊢
    clear hR1 hR2 hN hM
    go_enter Try.func4, Try.ntmps4
    go_wp2_with fail
    go_ret
    exact ⟨rfl, Below.refl _ _⟩
  have hbig2' : decide ((2147483647 : Int) < (M : Int)) = false := by simp; omega
  by_cases h0 : N = 0
  · have h0' : (N : Int) = 0 := by omega
    rw [← hM] at hR2 hcap ⊢
    clear hR1 hR2 hN hM
    go_enter Try.func4, Try.ntmps4
    go_wp2_with fail
    go_ret
    exact ⟨rfl, Below.refl _ _⟩
  have h0' : ¬ (N : Int) = 0 := by omega
  obtain ⟨n, hn⟩ : ∃ n, n = min N 80 := ⟨_, rfl⟩
  have hmn : (if (80 : Int) < (N : Int) then (80 : Int) else (N : Int)) = (n : Nat) := by split <;> omega
  have hn80 : n ≤ 80 := by omega
  have hnN : n ≤ N := by omega
  have hn1 : 1 ≤ n := by omega
  have hmk := fun W1 => run_make (P := Try.prog) W1 22 5 i5 (.int .u8 0) Try.underlying22 hi hz0 .i64 .i64 (n : Int) (n : Int) (by omega) (by omega) (by rw [hz2]; omega) (by omega)
  simp only [hz1] at hmk
  have HWR := hid (fun (W : World) (hb : Below w.heap.size w W) => writeM W b A2 c2 80 (hR2.below hb) h82 hcap hlen (by decide))
  rw [← hM] at HWR ⊢
  have hrl := run_len b (min (M / 2) 80)
  have HJN := hid (fun (l : List Nat) (hl : l.length ≤ 62 * ((n + 61) / 62)) (h128 : ∀ c ∈ l, c < 128) => joins l b ((n + 61) / 62) (min (M / 2) 80) hl h128)
  generalize azRun ⟨[], [], 0⟩ b (min (M / 2) 80) = s at *
  obtain ⟨gb, go, rfl, hgb, hcell⟩ := hR1.2 (by omega)
  have HC := hid (show ∀ k, k < N → w.cell? ⟨gb, go + k, none⟩ = some (.int .u8 (a.getD k 0 : Nat)) from fun k hk => by
    have hk' : k < a.length := by rw [← HN.out]; exact hk
    rw [hcell k (by rw [u8s_len]; exact hk')]
    simp only [u8s, List.getElem_map]
    rw [List.getD, List.getElem?_eq_getElem hk']
    rfl)
  have H81 := hid h81
  have HZ := hid (show Arr (w.alloc (.cells (madeCells #[.int .u8 0] n) 5)) w.heap.size 5 (u8s ((a.take 0).map (· % 128) ++ List.replicate (n - 0) 0)) by have := Arr.made w 5 (.int .u8 0) n; rw [u8s_rep] at this; simpa using this)
  have HB0 := hid (show Below w.heap.size w (w.alloc (.cells (madeCells #[.int .u8 0] n) 5)) from (Below.refl _ _).alloc (Nat.le_refl _) _)
  clear hcell hR1 hR2 h81 h82 hn hN hM hcap hlen
  go_enter Try.func4, Try.ntmps4
  go_wp2_with fail
  generalize w.alloc (.cells (madeCells #[.int .u8 0] n) 5) = w1 at *
  clear hmk
  go_loopw [6] (fun iv wr => ∃ i : Nat, i ≤ n ∧ iv = .int .i64 (i : Nat) ∧ Hid (Arr wr w.heap.size 5 (u8s ((a.take i).map (· % 128) ++ List.replicate (n - i) 0))) ∧ Hid (Below w.heap.size w wr)) (fun iv _ => n - (intOf iv).toNat)
  case atStart => exact ⟨0, by omega, rfl, HZ, HB0⟩
  case round =>
    clear HZ HB0
    obtain ⟨i, hin, rfl, HA, HB⟩ := hrel
    by_cases hlt : i < n
    case pos =>
      have hlt' : (i : Int) < (n : Int) := by omega
      have ci := (World.cell?_of_block (w := w) (HB.out.block gb hgb)).trans (HC.out i (by omega))
      have hxl : a.getD i 0 < 256 := by
        rw [List.getD, List.getElem?_eq_getElem (by rw [← HN.out]; omega)]
        exact H81.out _ (List.getElem_mem _)
      have HFN := hid (fill_next a n i hlt (by rw [← HN.out]; exact hnN))
      obtain ⟨x, hx⟩ : ∃ x, x = a.getD i 0 := ⟨_, rfl⟩
      rw [← hx] at ci hxl HFN
      have hxm : (x : Int) % 128 = ((x % 128 : Nat) : Int) := by omega
      have hy128 : x % 128 < 128 := Nat.mod_lt _ (by decide)
      generalize x % 128 = y at *
      obtain ⟨cv, hcv⟩ := HA.out.has i (by rw [u8s_len, List.length_append, List.length_map, List.length_take, List.length_replicate, ← HN.out]; omega)
      have fz := HA.out.frozen i
      have HA2 := hid (show Arr (wr.setCell ⟨w.heap.size, i, none⟩ (.int .u8 ((y : Nat) : Int))) w.heap.size 5 (u8s ((a.take (i + 1)).map (· % 128) ++ List.replicate (n - (i + 1)) 0)) by
        rw [← HFN.out, ← u8s_set]; exact HA.out.set i _)
      have HB2 := hid (HB.out.setCell (p := ⟨w.heap.size, i, none⟩) (Nat.le_refl _) (.int .u8 ((y : Nat) : Int)))
      clear hx HA HB
      go_wp2_with fail
      go_roundw
      case rel => exact ⟨i + 1, by omega, by go_num, HA2, HB2⟩
      case measure => simp [intOf]; omega
    case neg =>
      obtain rfl : i = n := by omega
      have hlt' : ¬ (i : Int) < (i : Int) := by omega
      obtain ⟨l, hl⟩ : ∃ l, l = (a.take i).map (· % 128) := ⟨_, rfl⟩
      have hll : l.length = i := by rw [hl, List.length_map, List.length_take, ← HN.out]; omega
      have h128 : ∀ c ∈ l, c < 128 := fun c hc => by
        rw [hl] at hc
        obtain ⟨y, _, rfl⟩ := List.mem_map.1 hc
        exact Nat.mod_lt _ (by decide)
      have hA := HA.out
      rw [Nat.sub_self, List.replicate_zero, List.append_nil, ← hl] at hA
      have HA1 := hid hA
      have HLL := hid hll
      have HRU := hid (HJN.out l (by rw [hll]; omega) h128)
      have HW := hid (HWR.out wr HB.out)
      have hl256 : ∀ c ∈ l, c < 256 := fun c hc => by have := h128 c hc; omega
      have HPL := hid (fun W => plainM l hl256 (by rw [hll]; omega) W)
      rw [hll] at HPL
      have hpl1 := plain_len l ((i + 61) / 62)
      have hpl2 := plain_long l (by rw [hll]; omega) ((i + 61) / 62) (by omega)
      obtain ⟨bits, hbits⟩ : ∃ bits, bits = (plainTo l ((i + 61) / 62)).bits := ⟨_, rfl⟩
      rw [← hbits] at HPL HRU hpl1 hpl2
      have hbl : bits.length ≤ 2000 := by omega
      have H128 := hid h128
      have HPL2 := hid hpl2
      clear hbits hl hA hll HA HWR HJN hl256 hpl1 h128 hpl2 hmn
      go_wp2_with fail
      refine HW.out.mono ?_
      rintro e w2 ⟨v2, rfl, hO2, hb2⟩
      obtain ⟨A3, c3, hv3, hR3, _⟩ := hO2.form
      subst hv3
      rw [List.length_map] at hR3 ⊢
      have hlt2 := HA1.out.lt
      have HA2 := hid (HA1.out.below hb2 hlt2)
      have HB2 := hid (HB.out.trans (hb2.mono HB.out.size))
      have HR3 := hid hR3
      have hcv := arr_text HA2.out i i HLL.out.symm
      have HP2 := hid (HPL.out w2)
      have hw2 := HB2.out.size
      have hs2 := HA2.out.lt
      clear hO2 hb2 hR3 HA1 HB HW HPL hlt2
      go_wp2_with fail
      refine HP2.out.mono ?_
      rintro e w3 ⟨v3, rfl, hO3, hb3⟩
      have HA3 := hid (HA2.out.below hb3 hs2)
      have HB3 := hid (HB2.out.trans (hb3.mono hw2))
      have HR4 := hid (HR3.out.below hb3)
      have hone : ∀ u ∈ s.bits.map Value.bool, u.oneCell' = true := by
        intro u hu
        obtain ⟨x, _, rfl⟩ := List.mem_map.1 hu
        rfl
      have HONE := hid hone
      have HO3 := hid hO3
      have hsl : s.bits.length ≤ 100000 := by omega
      have HTXL := hid (show s.text.length ≤ 100000 by omega)
      have hlb : (bits.map Value.bool).length = bits.length := by simp
      have m1 := hid (show (bits.map Value.bool).length + s.bits.length ≤ maxLen by rw [hlb]; simp [maxLen]; omega)
      have m2 := hid (show ((bits.map Value.bool).length + s.bits.length) * 1 ≤ 140737488355328 by rw [hlb]; omega)
      have m3 := hid (show w2.heap.size ≤ w3.heap.size from hb3.size)
      have hs3 := Nat.lt_of_lt_of_le hs2 hb3.size
      clear hb3 hO3 hone hlb HA2 HB2 HR3 HP2 hcv hrl
      go_wp2_with (at_builtin; refine wpList_app _ rfl _ _ 28 rfl w2.heap.size 4 i4 _ 1 Try.underlying28 hi4 hb0 hb1 hb2 rfl v3 (bits.map Value.bool) rfl HO3.out A3 s.bits.length c3 (s.bits.map Value.bool) rfl HR4.out HONE.out m1.out m2.out m3.out ?_)
      intro v4 w4 hO4 hg4 hown4
      rw [← List.map_append] at hO4
      obtain ⟨A5, c5, hv5, hR5, _⟩ := hO4.form
      subst hv5
      rw [List.length_map, List.length_append] at hR5 ⊢
      obtain ⟨T, hT⟩ : ∃ T, T = bits.length + s.bits.length := ⟨_, rfl⟩
      rw [← hT] at hR5 ⊢
      have HTX := hid hT
      have hT2 : T ≤ 102000 := by omega
      have hB4 : Below w2.heap.size w3 w4 := (Below.refl _ w3).grown hg4 m3.out (fun k hk => (HO3.out.lt k hk).1)
      have HA4 := hid (HA3.out.below hB4 hs2)
      have HB4 := hid (HB3.out.trans (hB4.mono hw2))
      have hbT : (bits ++ s.bits).length = T := by rw [List.length_append, hT]
      have hht := textM (bits ++ s.bits) (l ++ s.text) A5 c5 w4 (by rw [hbT]; exact hR5) (by rw [hbT, hT]; have := HPL2.out; omega) (by rw [hbT]; omega) HRU.out
      rw [hbT] at hht
      have HT := hid hht
      clear hht hbT hT
      have hs4 := Nat.lt_of_lt_of_le hs3 hg4.size
      clear hO4 hg4 hown4 hR5 hB4 HO3 HA3 HB3 HR4 HONE
      go_wp2_with fail
      refine HT.out.mono ?_
      rintro e w5 ⟨rfl, hb5⟩
      have HA5 := hid (HA4.out.below hb5 hs4)
      have HB5 := hid (HB4.out.trans (hb5.mono HB4.out.size))
      have hcv := arr_text HA5.out i i HLL.out.symm
      have HEQ := hid (show (strOf (l ++ s.text)) = strOf l ++ strOf s.text from (strOf_app _ _).symm)
      have z1 : (strOf l).size ≤ 100 := by rw [strOf_size, HLL.out]; omega
      have z2 : (strOf s.text).size ≤ 100000 := by rw [strOf_size]; exact HTXL.out
      rw [HEQ.out]
      clear hb5 HA4 HB4 HT
      generalize strOf l = sl at *
      generalize strOf s.text = st at *
      have z3 : ¬ 9223372036854775807 < sl.size + st.size := by omega
      go_wp2_with fail
      go_ret
      exact ⟨rfl, HB5.out⟩

/-- For every input FnAZJoins returns true. -/
theorem FnAZJoins_walk (w : World) (A1 : Option Addr) (len1 cap1 : Nat) (zs1 : List Int) (hS1 : SlIn w A1 len1 cap1 (zs1.map (Value.int .u8))) (hwf1 : ∀ n ∈ zs1, (Lit.int .u8 n).wf = true) (A2 : Option Addr) (len2 cap2 : Nat) (zs2 : List Int) (hS2 : SlIn w A2 len2 cap2 (zs2.map (Value.int .u8))) (hwf2 : ∀ n ∈ zs2, (Lit.int .u8 n).wf = true) :
    Calls Try.prog 4 #[.slice A1 len1 cap1, .slice A2 len2 cap2] w (fun e w' => e = .returned (.bool true) ∧ Below w.heap.size w w') := by
  obtain ⟨h1, h2⟩ := u8s_of' zs1 hwf1
  obtain ⟨k1, k2⟩ := u8s_of' zs2 hwf2
  have hR1 := hS1.rd
  have hR2 := hS2.rd
  rw [h1] at hR1
  rw [k1] at hR2
  obtain ⟨hl, hlc, hcm, _⟩ := hS1
  obtain ⟨kl, klc, kcm, _⟩ := hS2
  have hl2 : (zs1.map Int.toNat).length = len1 := by simpa using hl
  have kl2 : (zs2.map Int.toNat).length = len2 := by simpa using kl
  have := joins_core w A1 A2 cap1 cap2 (zs1.map Int.toNat) (zs2.map Int.toNat) (by rw [hl2]; exact hR1) h2 (by rw [kl2]; exact hR2) k2 (by omega) kcm
  rw [hl2, kl2] at this
  exact this
end Go.Proofs.Ytliephokeafllaa
