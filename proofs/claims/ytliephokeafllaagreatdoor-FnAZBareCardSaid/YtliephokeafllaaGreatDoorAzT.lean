/- decoder.getEncodedData. -/
import Derived.Test.YtliephokeafllaaGreatDoorAzQ
import Derived.Test.YtliephokeafllaaGreatDoorAzD
import Derived.Laws.BytesArg
import Derived.Lib.ConvBytes
import Derived.Lib.SmallJoins
namespace Go.Proofs.YtliephokeafllaaGreatDoor
open Go.RowKit
set_option linter.unusedVariables false
set_option linter.unusedSimpArgs false

theorem isCtl_short (x : List Nat) (h : x.length < 5) : isCtl x = false := by
  unfold isCtl
  rw [beq_eq_false_iff_ne]
  intro e
  have := congrArg List.length e
  rw [List.length_take] at this
  simp at this
  omega
theorem strOf_toList (l : List Nat) : (strOf l).toList = l.map UInt8.ofNat := by
  unfold strOf
  rw [ByteArray.toList_mk]
theorem map_u8_eq (a b : List Nat) (ha : ∀ c ∈ a, c < 256) (hb : ∀ c ∈ b, c < 256) : (a.map UInt8.ofNat == b.map UInt8.ofNat) = (a == b) := by
  have inj : ∀ (a b : List Nat), (∀ c ∈ a, c < 256) → (∀ c ∈ b, c < 256) → a.map UInt8.ofNat = b.map UInt8.ofNat → a = b := by
    intro a
    induction a with
    | nil => intro b _ _ h; cases b with
      | nil => rfl
      | cons y b => simp at h
    | cons x a ih => intro b ha hb h; cases b with
      | nil => simp at h
      | cons y b =>
        simp only [List.map_cons, List.cons.injEq] at h
        have hx := ha x (by simp)
        have hy := hb y (by simp)
        have e := congrArg UInt8.toNat h.1
        rw [UInt8.toNat_ofNat_of_lt' hx, UInt8.toNat_ofNat_of_lt' hy] at e
        rw [e, ih b (fun c hc => ha c (by simp [hc])) (fun c hc => hb c (by simp [hc])) h.2]
  rw [Bool.eq_iff_iff, beq_iff_eq, beq_iff_eq]
  exact ⟨inj a b ha hb, fun h => by rw [h]⟩
theorem prefix_eq (x : List Nat) (h256 : ∀ c ∈ x, c < 256) : (((strOf x).extract 0 5).toList == [67, 84, 82, 76, 95]) = isCtl x := by
  rw [strOf_ext, strOf_toList, List.drop_zero, show (5 - 0 : Nat) = 5 from rfl]
  exact map_u8_eq (x.take 5) [67, 84, 82, 76, 95] (fun c hc => h256 c (List.mem_of_mem_take hc)) (by decide)
theorem flg_eq (x : List Nat) (h256 : ∀ c ∈ x, c < 256) : ((strOf x).toList == [70, 76, 71, 40, 110, 41]) = isFlg x := by
  rw [strOf_toList]
  exact map_u8_eq x [70, 76, 71, 40, 110, 41] h256 (by decide)
theorem prefixM (x : List Nat) (h256 : ∀ c ∈ x, c < 256) (hl : x.length ≤ 100) (w : World) :
    Calls Tryz.prog 104 #[.string (strOf x), .string ⟨#[67, 84, 82, 76, 95]⟩] w (fun e w' => e = .returned (.bool (isCtl x)) ∧ w = w') := by
  have hsz := strOf_size x
  have HPE := hid (prefix_eq x h256)
  by_cases h5 : x.length < 5
  · rw [isCtl_short x h5]
    have h5' : ¬ (5 : Int) ≤ ((strOf x).size : Int) := by rw [hsz]; omega
    clear hsz
    go_enter Tryz.func104, Tryz.ntmps104
    go_wp2_with fail
    go_ret
    exact ⟨rfl, rfl⟩
  · have h6 : (5 : Int) ≤ ((strOf x).size : Int) := by rw [hsz]; omega
    clear hsz
    go_enter Tryz.func104, Tryz.ntmps104
    go_wp2_with fail
    go_ret
    exact ⟨by rw [← HPE.out]; rfl, rfl⟩
theorem hasPrefixM (x : List Nat) (h256 : ∀ c ∈ x, c < 256) (hl : x.length ≤ 100) (w : World) :
    Calls Tryz.prog 71 #[.string (strOf x), .string ⟨#[67, 84, 82, 76, 95]⟩] w (fun e w' => e = .returned (.bool (isCtl x)) ∧ w = w') := by
  have H := hid (prefixM x h256 hl w)
  go_enter Tryz.func71, Tryz.ntmps71
  go_wp2_with fail
  refine H.out.mono ?_
  rintro e w' ⟨rfl, rfl⟩
  go_wp2_with fail
  go_ret
  exact ⟨rfl, rfl⟩

theorem info5 : (Tryz.prog.info? 5).map (fun i => (i.zero, i.size, i.bytes)) = some (some (.int .u8 0), 1, 1) := by kernel_rfl
/-- A text that is read. -/
def TextOut (X : List Nat) (w : World) (e : Ending) (w' : World) : Prop := e = .returned (.tuple #[.string (strOf X), .nilIface]) ∧ Below w.heap.size w w'
theorem u8s_one (l : List Nat) : ∀ u ∈ u8s l, u.oneCell' = true := by
  intro u hu
  obtain ⟨x, _, rfl⟩ := List.mem_map.1 hu
  rfl
theorem own_text {w : World} {B : Nat} {v : Value} {o : List Nat} (h : Own w B 5 v (u8s o)) (hn : v.ownBlock ≠ none) :
    ∃ g c, v = .slice (some ⟨g, 0, none⟩) o.length c ∧ (convert 22 9 (.slice (some ⟨g, 0, none⟩) o.length c)).run Tryz.prog w = .ok (.string (strOf o)) w := by
  rcases h.2 with ⟨rfl, hx⟩ | ⟨g, cap, cur, hv, hg, hh, hnc, r⟩
  · exact absurd rfl hn
  · rw [u8s_len] at hv
    refine ⟨g, cap, hv, ?_⟩
    have hf := h.form
    obtain ⟨A, c, hv2, hR, hc⟩ := hf
    rw [u8s_len] at hv2 hR hc
    rw [hv] at hv2
    simp only [Value.slice.injEq] at hv2
    obtain ⟨e1, _, e3⟩ := hv2
    subst e1
    subst e3
    have := run_convert_bytes_arg (P := Tryz.prog) w 22 5 Tryz.underlying22 Tryz.underlying5 g 0 o.length cap (o.map fun n => ((n : Nat) : Int)) (by simp) (fun i hi => by
      obtain ⟨b, oo, hA, hb, hcc⟩ := hR.2 (by omega)
      injection hA with hA
      injection hA with hA1 hA2
      subst hA1 hA2
      rw [hcc i (by rw [u8s_len]; exact hi)]
      simp [u8s, List.getD, List.getElem?_eq_getElem hi]) 9 Tryz.underlying9
    rwa [strOf_nums] at this

theorem str_conv (W : World) (l : List Nat) (h : ∀ c ∈ l, c < 256) : ∃ cap W', (convert 9 22 (.string (strOf l))).run Tryz.prog W = .ok (.slice (some ⟨W.heap.size, 0, none⟩) (strOf l).size cap) W' ∧
    Rd W' (some ⟨W.heap.size, 0, none⟩) l.length (u8s l) ∧ Below W.heap.size W W' ∧ W'.heap.size = W.heap.size + 1 := by
  refine ⟨_, _, Lib.run_convert_string_bytes W 9 22 5 (strOf l) Tryz.underlying9 Tryz.underlying22 Tryz.underlying5, ⟨u8s_len l, fun hn => ⟨W.heap.size, 0, rfl, by rw [Lib.bytesWorld_size]; omega, fun k hk => ?_⟩⟩, Go.Joins.below_bytesWorld _ _ _ _ (Nat.le_refl _), Lib.bytesWorld_size _ _ _⟩
  rw [u8s_len] at hk
  rw [Nat.zero_add, Lib.bytesWorld_cell W 5 (strOf l) k (by rw [strOf_size]; exact hk)]
  have e : (strOf l).data.toList = l.map UInt8.ofNat := by simp [strOf]
  rw [e]
  simp only [u8s, List.getElem_map, List.getD, List.getElem?_map, List.getElem?_eq_getElem hk, Option.map_some, Option.getD_some]
  rw [UInt8.toNat_ofNat_of_lt' (h _ (List.getElem_mem hk))]
theorem bytesAt_len (b : List Bool) (i : Nat) : ∀ n, (bytesAt b i n).length = n
  | 0 => rfl
  | n + 1 => by rw [bytesAt, List.length_append, bytesAt_len b i n]; rfl
theorem rdTab_fin : (List.range 5).all (fun t => (List.range 32).all fun v => ((rdTab t).getD v []).all (fun c => decide (c < 256)) && decide (((rdTab t).getD v []).length ≤ 7) && (!plainS ((rdTab t).getD v []) || decide (((rdTab t).getD v []).length ≤ 2))) = true := by decide +kernel
theorem rdTab_ok (t v : Nat) (ht : t ≤ 4) (hv : v < 2 ^ rdSize t) : (∀ c ∈ (rdTab t).getD v [], c < 256) ∧ ((rdTab t).getD v []).length ≤ 7 ∧ (plainS ((rdTab t).getD v []) = true → ((rdTab t).getD v []).length ≤ 2) := by
  have h32 : v < 32 := Nat.lt_of_lt_of_le hv (by unfold rdSize; split <;> decide)
  have h := List.all_eq_true.1 (List.all_eq_true.1 rdTab_fin t (List.mem_range.2 (by omega))) v (List.mem_range.2 h32)
  simp only [Bool.and_eq_true, List.all_eq_true, decide_eq_true_eq, Bool.or_eq_true, Bool.not_eq_true'] at h
  refine ⟨h.1.1, h.1.2, fun hp => ?_⟩
  rcases h.2 with h2 | h2
  · rw [hp] at h2; cases h2
  · exact h2

set_option maxRecDepth 100000 in
set_option maxHeartbeats 16000000 in
theorem encodedM (b : List Bool) (X : List Nat) (A : Option Addr) (c : Nat) (p : Value) (w : World) (hR : Rd w A b.length (b.map Value.bool)) (h5 : 5 ≤ b.length) (hn : b.length ≤ 1000000) (hruns : Runs b X 0 0 0 []) :
    Calls Tryz.prog 43 #[p, .slice A b.length c] w (TextOut X w) := by
  obtain ⟨i5, hi, hz0, hz1, hz2⟩ := info_of info5
  obtain ⟨N, hN⟩ : ∃ N, N = b.length := ⟨_, rfl⟩
  have HN := hid hN
  rw [← hN] at hR h5 hn ⊢
  obtain ⟨C, hC⟩ : ∃ C, C = (N - 5) / 4 := ⟨_, rfl⟩
  have e1 : ((N : Int) - 5) / 4 = (C : Nat) := by omega
  have hCb : C ≤ 1000000 := by omega
  have hmk := fun W1 => run_make (P := Tryz.prog) W1 22 5 i5 (.int .u8 0) Tryz.underlying22 hi hz0 .i64 .i64 0 (C : Int) (by omega) (by omega) (by rw [hz2]; omega) (by omega)
  simp only [hz1] at hmk
  have hmk0 := fun W1 => run_make (P := Tryz.prog) W1 22 5 i5 (.int .u8 0) Tryz.underlying22 hi hz0 .i64 .i64 0 0 (by omega) (by omega) (by rw [hz2]; omega) (by omega)
  simp only [hz1] at hmk0
  have HR := hid hR
  have HRU := hid hruns
  clear hR hruns hN hC
  go_enter Tryz.func43, Tryz.ntmps43
  go_wp2_with fail
  have HRS := hid (show Own ((w.alloc (.cells (madeCells #[.int .u8 0] C) 5)).alloc (.cells (madeCells #[.int .u8 0] 0) 5)) w.heap.size 5 (.slice (some ⟨w.heap.size, 0, none⟩) 0 C) [] from
    Own.alloc (show Own (w.alloc (.cells (madeCells #[.int .u8 0] C) 5)) w.heap.size 5 (.slice (some ⟨w.heap.size, 0, none⟩) 0 C) [] from World.ownsRow_made w (madeCells #[.int .u8 0] C) C (Nat.le_refl _) (by simp [maxLen]; omega) (by simp [madeCells])) _)
  have HO0 := hid (show Own ((w.alloc (.cells (madeCells #[.int .u8 0] C) 5)).alloc (.cells (madeCells #[.int .u8 0] 0) 5)) (w.heap.size + 1) 5 (.slice (some ⟨w.heap.size + 1, 0, none⟩) 0 0) (u8s []) from by
    have := World.ownsRow_made (base := w.heap.size + 1) (e := 5) (size := 1) (w.alloc (.cells (madeCells #[.int .u8 0] C) 5)) (madeCells #[.int .u8 0] 0) 0 (by simp) (by simp [maxLen]) (by simp [madeCells])
    simpa [Own, u8s] using this)
  have HB0 := hid (show Below w.heap.size w ((w.alloc (.cells (madeCells #[.int .u8 0] C) 5)).alloc (.cells (madeCells #[.int .u8 0] 0) 5)) from ((Below.refl _ _).alloc (Nat.le_refl _) _).alloc (by simp) _)
  have hs0 : w.heap.size + 1 < ((w.alloc (.cells (madeCells #[.int .u8 0] C) 5)).alloc (.cells (madeCells #[.int .u8 0] 0) 5)).heap.size := by simp
  generalize (w.alloc (.cells (madeCells #[.int .u8 0] C) 5)).alloc (.cells (madeCells #[.int .u8 0] 0) 5) = w1 at *
  clear hmk hmk0 e1
  generalize hrv : Value.slice (some ⟨w.heap.size, 0, none⟩) 0 C = rv at *
  have HRV := hid (show rv.ownBlock = some w.heap.size by rw [← hrv]; rfl)
  clear hrv
  go_loopw [7, 8, 9, 10, 11] (fun lv sv zv dv iv wr => ∃ (i l s : Nat) (o : List Nat), i ≤ N ∧ l ≤ 4 ∧ s ≤ 5 ∧ o.length ≤ i ∧ lv = .int .i64 (l : Nat) ∧ sv = .int .i64 (s : Nat) ∧ rv = zv ∧ iv = .int .i64 (i : Nat) ∧ Hid (Runs b X i l s o) ∧ Hid (Own wr (w.heap.size + 1) 5 dv (u8s o)) ∧
    Hid (Own wr w.heap.size 5 rv []) ∧ Hid (Below w.heap.size w wr) ∧ w.heap.size + 1 < wr.heap.size) (fun _ _ _ _ iv _ => N - (intOf iv).toNat)
  case atStart => exact ⟨0, 0, 0, [], by omega, by omega, by omega, by simp, rfl, rfl, rfl, rfl, HRU, HO0, HRS, HB0, hs0⟩
  case round =>
    clear HRU HO0 HRS HB0 hs0
    obtain ⟨i, l, s, o, hiN, hl4, hs5, hol, rfl, rfl, rfl, rfl, HRU, HO, HRS, HB, hsz⟩ := hrel
    have hru := HRU.out
    clear HRU
    cases hru with
    | done _ _ _ hd =>
      have hd' : ¬ (i : Int) < (N : Int) := by have := HN.out; omega
      obtain ⟨Ad, cd, hv, hRd, _⟩ := HO.out.form
      rw [u8s_len] at hv hRd
      subst hv
      have HRX := hid hRd
      clear hRd
      have m1 := hid (show ([] : List Value).length + X.length ≤ maxLen by simp [maxLen]; omega)
      have m2 := hid (show (([] : List Value).length + X.length) * 1 ≤ 140737488355328 by simp; omega)
      have m3 := hid (show w.heap.size ≤ wr.heap.size by omega)
      go_wp2_with (at_builtin; refine wpList_app _ rfl _ _ 22 rfl w.heap.size 5 i5 _ 1 Tryz.underlying22 hi hz0 hz1 hz2 rfl _ [] rfl HRS.out Ad X.length cd (u8s X) rfl HRX.out (u8s_one _) m1.out m2.out m3.out ?_)
      intro v2 w9 hO9 hg9 hown9
      have hne : v2.ownBlock ≠ none := by
        rcases hown9 with e | e
        · rw [e, HRV.out]; simp
        · rw [e]; simp
      obtain ⟨g9, c9, rfl, hcv⟩ := own_text (by simpa using hO9) hne
      have HB9 := hid (HB.out.grown hg9 (by omega) (fun k hk => by rw [HRV.out] at hk; injection hk with hk; omega))
      clear hO9 hg9 hown9 hne
      go_wp2_with fail
      go_ret2
      exact ⟨rfl, HB9.out⟩
    | short _ _ _ hi1 hs4 hsh =>
      rw [← HN.out] at hi1 hsh
      have hi1' : (i : Int) < (N : Int) := by omega
      have hs5' : ¬ (s : Int) = 5 := by omega
      by_cases h3 : s = 3
      · have h3' : (s : Int) = 3 := by omega
        have hsz4 : (N : Int) - (i : Int) < 4 := by rw [h3] at hsh; simp [rdSize] at hsh; omega
        clear h3 hsh
        obtain ⟨Ad, cd, hv, hRd, _⟩ := HO.out.form
        rw [u8s_len] at hv hRd
        subst hv
        have HRX := hid hRd
        clear hRd
        have m1 := hid (show ([] : List Value).length + X.length ≤ maxLen by simp [maxLen]; omega)
        have m2 := hid (show (([] : List Value).length + X.length) * 1 ≤ 140737488355328 by simp; omega)
        have m3 := hid (show w.heap.size ≤ wr.heap.size by omega)
        go_wp2_with (at_builtin; refine wpList_app _ rfl _ _ 22 rfl w.heap.size 5 i5 _ 1 Tryz.underlying22 hi hz0 hz1 hz2 rfl _ [] rfl HRS.out Ad X.length cd (u8s X) rfl HRX.out (u8s_one _) m1.out m2.out m3.out ?_)
        intro v2 w9 hO9 hg9 hown9
        have hne : v2.ownBlock ≠ none := by
          rcases hown9 with e | e
          · rw [e, HRV.out]; simp
          · rw [e]; simp
        obtain ⟨g9, c9, rfl, hcv⟩ := own_text (by simpa using hO9) hne
        have HB9 := hid (HB.out.grown hg9 (by omega) (fun k hk => by rw [HRV.out] at hk; injection hk with hk; omega))
        clear hO9 hg9 hown9 hne
        go_wp2_with fail
        go_ret2
        exact ⟨rfl, HB9.out⟩
      · have h3' : ¬ (s : Int) = 3 := by omega
        have hsz5 : (N : Int) - (i : Int) < 5 := by simp [rdSize, h3] at hsh; omega
        clear h3 hsh
        obtain ⟨Ad, cd, hv, hRd, _⟩ := HO.out.form
        rw [u8s_len] at hv hRd
        subst hv
        have HRX := hid hRd
        clear hRd
        have m1 := hid (show ([] : List Value).length + X.length ≤ maxLen by simp [maxLen]; omega)
        have m2 := hid (show (([] : List Value).length + X.length) * 1 ≤ 140737488355328 by simp; omega)
        have m3 := hid (show w.heap.size ≤ wr.heap.size by omega)
        go_wp2_with (at_builtin; refine wpList_app _ rfl _ _ 22 rfl w.heap.size 5 i5 _ 1 Tryz.underlying22 hi hz0 hz1 hz2 rfl _ [] rfl HRS.out Ad X.length cd (u8s X) rfl HRX.out (u8s_one _) m1.out m2.out m3.out ?_)
        intro v2 w9 hO9 hg9 hown9
        have hne : v2.ownBlock ≠ none := by
          rcases hown9 with e | e
          · rw [e, HRV.out]; simp
          · rw [e]; simp
        obtain ⟨g9, c9, rfl, hcv⟩ := own_text (by simpa using hO9) hne
        have HB9 := hid (HB.out.grown hg9 (by omega) (fun k hk => by rw [HRV.out] at hk; injection hk with hk; omega))
        clear hO9 hg9 hown9 hne
        go_wp2_with fail
        go_ret2
        exact ⟨rfl, HB9.out⟩
    | short5 _ _ hi1 hsh =>
      rw [← HN.out] at hi1 hsh
      have hi1' : (i : Int) < (N : Int) := by omega
      have hsz5 : (N : Int) - (i : Int) < 5 := by omega
      clear hsh
      obtain ⟨Ad, cd, hv, hRd, _⟩ := HO.out.form
      rw [u8s_len] at hv hRd
      subst hv
      have HRX := hid hRd
      clear hRd
      have m1 := hid (show ([] : List Value).length + X.length ≤ maxLen by simp [maxLen]; omega)
      have m2 := hid (show (([] : List Value).length + X.length) * 1 ≤ 140737488355328 by simp; omega)
      have m3 := hid (show w.heap.size ≤ wr.heap.size by omega)
      go_wp2_with (at_builtin; refine wpList_app _ rfl _ _ 22 rfl w.heap.size 5 i5 _ 1 Tryz.underlying22 hi hz0 hz1 hz2 rfl _ [] rfl HRS.out Ad X.length cd (u8s X) rfl HRX.out (u8s_one _) m1.out m2.out m3.out ?_)
      intro v2 w9 hO9 hg9 hown9
      have hne : v2.ownBlock ≠ none := by
        rcases hown9 with e | e
        · rw [e, HRV.out]; simp
        · rw [e]; simp
      obtain ⟨g9, c9, rfl, hcv⟩ := own_text (by simpa using hO9) hne
      have HB9 := hid (HB.out.grown hg9 (by omega) (fun k hk => by rw [HRV.out] at hk; injection hk with hk; omega))
      clear hO9 hg9 hown9 hne
      go_wp2_with fail
      go_ret2
      exact ⟨rfl, HB9.out⟩
    | char _ _ _ _ cs hs4 hle hcs hpl hl4' hnext =>
      rw [← HN.out] at hle
      have hcv := rdTab_ok s (codeAt b i (rdSize s)) hs4 (codeAt_lt b i _)
      rw [← hcs] at hcv
      obtain ⟨hc256, _, hc2⟩ := hcv
      have hc2 := hc2 hpl
      have hpl2 : isCtl cs = false ∧ isFlg cs = false := by unfold plainS at hpl; simpa using hpl
      have hch := charM s (codeAt b i (rdSize s)) hs4 (codeAt_lt b i _) wr
      rw [← hcs] at hch
      have hfl := flg_eq cs hc256
      rw [hpl2.2] at hfl
      have hpx : ∀ W, Calls Tryz.prog 71 #[.string (strOf cs), .string ⟨#[67, 84, 82, 76, 95]⟩] W (fun e w' => e = .returned (.bool false) ∧ W = w') := fun W => by have := hasPrefixM cs hc256 (by omega) W; rwa [hpl2.1] at this
      unfold CharOut at hch
      obtain ⟨st, hst⟩ : ∃ st, st = strOf cs := ⟨_, rfl⟩
      rw [← hst] at hfl hch
      rw [← hst] at hpx
      have HST := hid hst
      have HPX := hid hpx
      have HCH := hid hch
      have HRUN := hid hnext
      clear hst hcs hpl hnext hpl2 hpx hch
      have hi1' : (i : Int) < (N : Int) := by unfold rdSize at hle; split at hle <;> omega
      have hs5' : ¬ (s : Int) = 5 := by omega
      by_cases h3 : s = 3
      · have h3' : 3 ≤ (s : Int) := by omega
        have h3t : (s : Int) ≤ 3 := by omega
        have hsz : rdSize s = 4 := by simp [rdSize, h3]
        rw [hsz] at HCH HRUN hle
        have hle' : ¬ (N : Int) - (i : Int) < 4 := by omega
        have hrc : Calls Tryz.prog 64 #[.slice A N c, .int .i64 (i : Nat), .int .i64 4] wr (fun e w' => e = .returned (.int .i64 (codeAt b i 4 : Nat)) ∧ wr = w') := readCodeM A N c b i 4 wr (HR.out.below (HB.out)) hn hle (by decide)
        have HRC := hid hrc
        generalize codeAt b i 4 = v at *
        clear hrc h3 hsz
        go_wp2_with (first | (go_at_call 64; ((with_reducible refine HRC.out.mono ?_); rintro e w' ⟨rfl, rfl⟩)))
        refine HCH.out.mono ?_
        rintro e w2 ⟨rfl, hb2⟩
        have HO2 := hid (HO.out.below hb2 (fun k hk => (HO.out.lt k hk).2))
        have HRS2 := hid (HRS.out.below hb2 (fun k hk => (HRS.out.lt k hk).2))
        have HB2 := hid (HB.out.trans (hb2.mono HB.out.size))
        have hsz2 := hb2.size
        clear hb2 HO HRS HB HCH HRC
        have hsv := str_conv w2 cs hc256
        rw [← HST.out] at hsv
        obtain ⟨cp3, w3, hcv, hR3, hb3, hz3⟩ := hsv
        have hss : st.size = cs.length := by rw [HST.out, strOf_size]
        have HO3 := hid (HO2.out.below hb3 (fun k hk => (HO2.out.lt k hk).2))
        have HRS3 := hid (HRS2.out.below hb3 (fun k hk => (HRS2.out.lt k hk).2))
        have HB3 := hid (HB2.out.trans (hb3.mono HB2.out.size))
        have HR3 := hid hR3
        have hz4 : w.heap.size + 1 < w3.heap.size := by omega
        have hlen : (u8s o).length = o.length := u8s_len o
        clear hR3 hb3 hz3 HO2 HRS2 HB2 hsz2
        rw [hss] at hcv
        have m1 := hid (show (u8s o).length + cs.length ≤ maxLen by rw [hlen]; simp [maxLen]; omega)
        have m2 := hid (show ((u8s o).length + cs.length) * 1 ≤ 140737488355328 by rw [hlen]; omega)
        have m3 := hid (show w.heap.size + 1 ≤ w3.heap.size by omega)
        have hu := hid (u8s_one cs)
        clear hlen hss hc256
        go_wp2_with (first | (go_at_call 71; ((with_reducible refine (HPX.out _).mono ?_); rintro e w' ⟨rfl, rfl⟩)) | (at_builtin; refine wpList_app _ rfl (.tmp 189) (.tmp 190) 22 rfl (w.heap.size + 1) 5 i5 _ 1 Tryz.underlying22 hi hz0 hz1 hz2 rfl _ (u8s o) rfl HO3.out (some ⟨w2.heap.size, 0, none⟩) cs.length cp3 (u8s cs) rfl HR3.out hu.out m1.out m2.out m3.out ?_))
        intro v4 w4 hO4 hg4 hown4
        have HO4 := hid (show Own w4 (w.heap.size + 1) 5 v4 (u8s (o ++ cs)) from by unfold u8s at hO4 ⊢; rw [List.map_append]; exact hO4)
        have HRS4 := hid (HRS3.out.keep hg4 (.inr (by rw [HRV.out]; intro hk; have := (HO3.out.lt _ hk.symm).1; omega)))
        have HB4 := hid (HB3.out.grown hg4 (by omega) (fun k hk => by have := (HO3.out.lt k hk).1; omega))
        have hz5 : w.heap.size + 1 < w4.heap.size := Nat.lt_of_lt_of_le hz4 hg4.size
        clear hO4 hg4 hown4 HO3 HRS3 HB3 hcv
        go_wp2_with fail
        go_roundw
        case rel => exact ⟨i + 4, l, l, o ++ cs, by omega, by omega, by omega, by rw [List.length_append]; omega, rfl, rfl, rfl, by go_num, HRUN, HO4, HRS4, HB4, hz5⟩
        case measure => simp [intOf]; omega
      · have h3' : ¬ (s : Int) = 3 := by omega
        have hsz : rdSize s = 5 := by simp [rdSize, h3]
        rw [hsz] at HCH HRUN hle
        have hle' : ¬ (N : Int) - (i : Int) < 5 := by omega
        have hrc : Calls Tryz.prog 64 #[.slice A N c, .int .i64 (i : Nat), .int .i64 5] wr (fun e w' => e = .returned (.int .i64 (codeAt b i 5 : Nat)) ∧ wr = w') := readCodeM A N c b i 5 wr (HR.out.below (HB.out)) hn hle (by decide)
        have HRC := hid hrc
        generalize codeAt b i 5 = v at *
        clear hrc h3 hsz
        go_wp2_with (first | (go_at_call 64; ((with_reducible refine HRC.out.mono ?_); rintro e w' ⟨rfl, rfl⟩)))
        refine HCH.out.mono ?_
        rintro e w2 ⟨rfl, hb2⟩
        have HO2 := hid (HO.out.below hb2 (fun k hk => (HO.out.lt k hk).2))
        have HRS2 := hid (HRS.out.below hb2 (fun k hk => (HRS.out.lt k hk).2))
        have HB2 := hid (HB.out.trans (hb2.mono HB.out.size))
        have hsz2 := hb2.size
        clear hb2 HO HRS HB HCH HRC
        have hsv := str_conv w2 cs hc256
        rw [← HST.out] at hsv
        obtain ⟨cp3, w3, hcv, hR3, hb3, hz3⟩ := hsv
        have hss : st.size = cs.length := by rw [HST.out, strOf_size]
        have HO3 := hid (HO2.out.below hb3 (fun k hk => (HO2.out.lt k hk).2))
        have HRS3 := hid (HRS2.out.below hb3 (fun k hk => (HRS2.out.lt k hk).2))
        have HB3 := hid (HB2.out.trans (hb3.mono HB2.out.size))
        have HR3 := hid hR3
        have hz4 : w.heap.size + 1 < w3.heap.size := by omega
        have hlen : (u8s o).length = o.length := u8s_len o
        clear hR3 hb3 hz3 HO2 HRS2 HB2 hsz2
        rw [hss] at hcv
        have m1 := hid (show (u8s o).length + cs.length ≤ maxLen by rw [hlen]; simp [maxLen]; omega)
        have m2 := hid (show ((u8s o).length + cs.length) * 1 ≤ 140737488355328 by rw [hlen]; omega)
        have m3 := hid (show w.heap.size + 1 ≤ w3.heap.size by omega)
        have hu := hid (u8s_one cs)
        clear hlen hss hc256
        go_wp2_with (first | (go_at_call 71; ((with_reducible refine (HPX.out _).mono ?_); rintro e w' ⟨rfl, rfl⟩)) | (at_builtin; refine wpList_app _ rfl (.tmp 189) (.tmp 190) 22 rfl (w.heap.size + 1) 5 i5 _ 1 Tryz.underlying22 hi hz0 hz1 hz2 rfl _ (u8s o) rfl HO3.out (some ⟨w2.heap.size, 0, none⟩) cs.length cp3 (u8s cs) rfl HR3.out hu.out m1.out m2.out m3.out ?_))
        intro v4 w4 hO4 hg4 hown4
        have HO4 := hid (show Own w4 (w.heap.size + 1) 5 v4 (u8s (o ++ cs)) from by unfold u8s at hO4 ⊢; rw [List.map_append]; exact hO4)
        have HRS4 := hid (HRS3.out.keep hg4 (.inr (by rw [HRV.out]; intro hk; have := (HO3.out.lt _ hk.symm).1; omega)))
        have HB4 := hid (HB3.out.grown hg4 (by omega) (fun k hk => by have := (HO3.out.lt k hk).1; omega))
        have hz5 : w.heap.size + 1 < w4.heap.size := Nat.lt_of_lt_of_le hz4 hg4.size
        clear hO4 hg4 hown4 HO3 HRS3 HB3 hcv
        go_wp2_with fail
        go_roundw
        case rel => exact ⟨i + 5, l, l, o ++ cs, by omega, by omega, by omega, by rw [List.length_append]; omega, rfl, rfl, rfl, by go_num, HRUN, HO4, HRS4, HB4, hz5⟩
        case measure => simp [intOf]; omega
    | latch _ _ _ _ x hs4 hle hcs hlt hnext =>
      rw [← HN.out] at hle
      have hcv := rdTab_ok s (codeAt b i (rdSize s)) hs4 (codeAt_lt b i _)
      rw [hcs] at hcv
      have hx : x < 256 := hcv.1 x (by simp [ctl])
      have hch := charM s (codeAt b i (rdSize s)) hs4 (codeAt_lt b i _) wr
      rw [hcs] at hch
      have hpx : ∀ W, Calls Tryz.prog 71 #[.string (strOf (ctl x 76)), .string ⟨#[67, 84, 82, 76, 95]⟩] W (fun e w' => e = .returned (.bool true) ∧ W = w') := fun W => hasPrefixM (ctl x 76) hcv.1 (by simp [ctl]) W
      have hst : strOf (ctl x 76) = ⟨#[67, 84, 82, 76, 95, UInt8.ofNat x, 76]⟩ := rfl
      unfold CharOut at hch
      rw [hst] at hch
      rw [hst] at hpx
      have hux : (UInt8.ofNat x).toNat = x := UInt8.toNat_ofNat_of_lt' hx
      have HLT := hid (fun W => letTabM x hx W)
      obtain ⟨y, hy⟩ : ∃ y, y = UInt8.ofNat x := ⟨_, rfl⟩
      rw [← hy] at hch hpx hux
      have HLT2 := hid (show ∀ W, Calls Tryz.prog 72 #[.int .u8 (y.toNat : Int)] W (fun e w' => e = .returned (.int .i64 (letTab x : Nat)) ∧ W = w') from fun W => by rw [hux]; exact HLT.out W)
      have HPX := hid hpx
      have HCH := hid hch
      have HRUN := hid hnext
      clear hcs hnext hpx hch hst hcv hy hux HLT
      have hi1' : (i : Int) < (N : Int) := by unfold rdSize at hle; split at hle <;> omega
      have hs5' : ¬ (s : Int) = 5 := by omega
      by_cases h3 : s = 3
      · have h3' : 3 ≤ (s : Int) := by omega
        have h3t : (s : Int) ≤ 3 := by omega
        have hsz : rdSize s = 4 := by simp [rdSize, h3]
        rw [hsz] at HCH HRUN hle
        have hle' : ¬ (N : Int) - (i : Int) < 4 := by omega
        have hrc : Calls Tryz.prog 64 #[.slice A N c, .int .i64 (i : Nat), .int .i64 4] wr (fun e w' => e = .returned (.int .i64 (codeAt b i 4 : Nat)) ∧ wr = w') := readCodeM A N c b i 4 wr (HR.out.below (HB.out)) hn hle (by decide)
        have HRC := hid hrc
        generalize codeAt b i 4 = v at *
        clear hrc h3 hsz
        go_wp2_with (first | (go_at_call 64; ((with_reducible refine HRC.out.mono ?_); rintro e w' ⟨rfl, rfl⟩)))
        refine HCH.out.mono ?_
        rintro e w2 ⟨rfl, hb2⟩
        have HO2 := hid (HO.out.below hb2 (fun k hk => (HO.out.lt k hk).2))
        have HRS2 := hid (HRS.out.below hb2 (fun k hk => (HRS.out.lt k hk).2))
        have HB2 := hid (HB.out.trans (hb2.mono HB.out.size))
        have hsz2 := hb2.size
        clear hb2 HO HRS HB HCH HRC
        generalize letTab x = lt at *
        go_wp2_with (first | (go_at_call 71; ((with_reducible refine (HPX.out _).mono ?_); rintro e w' ⟨rfl, rfl⟩)) | (go_at_call 72; ((refine (HLT2.out _).mono ?_); rintro e w' ⟨rfl, rfl⟩)))
        go_roundw
        case rel => exact ⟨i + 4, lt, lt, o, by omega, by omega, by omega, by omega, rfl, rfl, rfl, by go_num, HRUN, HO2, HRS2, HB2, by omega⟩
        case measure => simp [intOf]; omega
      · have h3' : ¬ (s : Int) = 3 := by omega
        have hsz : rdSize s = 5 := by simp [rdSize, h3]
        rw [hsz] at HCH HRUN hle
        have hle' : ¬ (N : Int) - (i : Int) < 5 := by omega
        have hrc : Calls Tryz.prog 64 #[.slice A N c, .int .i64 (i : Nat), .int .i64 5] wr (fun e w' => e = .returned (.int .i64 (codeAt b i 5 : Nat)) ∧ wr = w') := readCodeM A N c b i 5 wr (HR.out.below (HB.out)) hn hle (by decide)
        have HRC := hid hrc
        generalize codeAt b i 5 = v at *
        clear hrc h3 hsz
        go_wp2_with (first | (go_at_call 64; ((with_reducible refine HRC.out.mono ?_); rintro e w' ⟨rfl, rfl⟩)))
        refine HCH.out.mono ?_
        rintro e w2 ⟨rfl, hb2⟩
        have HO2 := hid (HO.out.below hb2 (fun k hk => (HO.out.lt k hk).2))
        have HRS2 := hid (HRS.out.below hb2 (fun k hk => (HRS.out.lt k hk).2))
        have HB2 := hid (HB.out.trans (hb2.mono HB.out.size))
        have hsz2 := hb2.size
        clear hb2 HO HRS HB HCH HRC
        generalize letTab x = lt at *
        go_wp2_with (first | (go_at_call 71; ((with_reducible refine (HPX.out _).mono ?_); rintro e w' ⟨rfl, rfl⟩)) | (go_at_call 72; ((refine (HLT2.out _).mono ?_); rintro e w' ⟨rfl, rfl⟩)))
        go_roundw
        case rel => exact ⟨i + 5, lt, lt, o, by omega, by omega, by omega, by omega, rfl, rfl, rfl, by go_num, HRUN, HO2, HRS2, HB2, by omega⟩
        case measure => simp [intOf]; omega
    | shift _ _ _ _ x hs4 hle hcs hnext =>
      rw [← HN.out] at hle
      have hcv := rdTab_ok s (codeAt b i (rdSize s)) hs4 (codeAt_lt b i _)
      rw [hcs] at hcv
      have hx : x < 256 := hcv.1 x (by simp [ctl])
      have hch := charM s (codeAt b i (rdSize s)) hs4 (codeAt_lt b i _) wr
      rw [hcs] at hch
      have hpx : ∀ W, Calls Tryz.prog 71 #[.string (strOf (ctl x 83)), .string ⟨#[67, 84, 82, 76, 95]⟩] W (fun e w' => e = .returned (.bool true) ∧ W = w') := fun W => hasPrefixM (ctl x 83) hcv.1 (by simp [ctl]) W
      have hst : strOf (ctl x 83) = ⟨#[67, 84, 82, 76, 95, UInt8.ofNat x, 83]⟩ := rfl
      unfold CharOut at hch
      rw [hst] at hch
      rw [hst] at hpx
      have hux : (UInt8.ofNat x).toNat = x := UInt8.toNat_ofNat_of_lt' hx
      have HLT := hid (fun W => letTabM x hx W)
      obtain ⟨y, hy⟩ : ∃ y, y = UInt8.ofNat x := ⟨_, rfl⟩
      rw [← hy] at hch hpx hux
      have HLT2 := hid (show ∀ W, Calls Tryz.prog 72 #[.int .u8 (y.toNat : Int)] W (fun e w' => e = .returned (.int .i64 (letTab x : Nat)) ∧ W = w') from fun W => by rw [hux]; exact HLT.out W)
      have hlt5 : letTab x ≤ 5 := by
        unfold letTab
        repeat (first | omega | split)
      have HPX := hid hpx
      have HCH := hid hch
      have HRUN := hid hnext
      clear hcs hnext hpx hch hst hcv hy hux HLT
      have hi1' : (i : Int) < (N : Int) := by unfold rdSize at hle; split at hle <;> omega
      have hs5' : ¬ (s : Int) = 5 := by omega
      by_cases h3 : s = 3
      · have h3' : 3 ≤ (s : Int) := by omega
        have h3t : (s : Int) ≤ 3 := by omega
        have hsz : rdSize s = 4 := by simp [rdSize, h3]
        rw [hsz] at HCH HRUN hle
        have hle' : ¬ (N : Int) - (i : Int) < 4 := by omega
        have hrc : Calls Tryz.prog 64 #[.slice A N c, .int .i64 (i : Nat), .int .i64 4] wr (fun e w' => e = .returned (.int .i64 (codeAt b i 4 : Nat)) ∧ wr = w') := readCodeM A N c b i 4 wr (HR.out.below (HB.out)) hn hle (by decide)
        have HRC := hid hrc
        generalize codeAt b i 4 = v at *
        clear hrc h3 hsz
        go_wp2_with (first | (go_at_call 64; ((with_reducible refine HRC.out.mono ?_); rintro e w' ⟨rfl, rfl⟩)))
        refine HCH.out.mono ?_
        rintro e w2 ⟨rfl, hb2⟩
        have HO2 := hid (HO.out.below hb2 (fun k hk => (HO.out.lt k hk).2))
        have HRS2 := hid (HRS.out.below hb2 (fun k hk => (HRS.out.lt k hk).2))
        have HB2 := hid (HB.out.trans (hb2.mono HB.out.size))
        have hsz2 := hb2.size
        clear hb2 HO HRS HB HCH HRC
        generalize letTab x = lt at *
        go_wp2_with (first | (go_at_call 71; ((with_reducible refine (HPX.out _).mono ?_); rintro e w' ⟨rfl, rfl⟩)) | (go_at_call 72; ((refine (HLT2.out _).mono ?_); rintro e w' ⟨rfl, rfl⟩)))
        go_roundw
        case rel => exact ⟨i + 4, s, lt, o, by omega, by omega, hlt5, by omega, rfl, rfl, rfl, by go_num, HRUN, HO2, HRS2, HB2, by omega⟩
        case measure => simp [intOf]; omega
      · have h3' : ¬ (s : Int) = 3 := by omega
        have hsz : rdSize s = 5 := by simp [rdSize, h3]
        rw [hsz] at HCH HRUN hle
        have hle' : ¬ (N : Int) - (i : Int) < 5 := by omega
        have hrc : Calls Tryz.prog 64 #[.slice A N c, .int .i64 (i : Nat), .int .i64 5] wr (fun e w' => e = .returned (.int .i64 (codeAt b i 5 : Nat)) ∧ wr = w') := readCodeM A N c b i 5 wr (HR.out.below (HB.out)) hn hle (by decide)
        have HRC := hid hrc
        generalize codeAt b i 5 = v at *
        clear hrc h3 hsz
        go_wp2_with (first | (go_at_call 64; ((with_reducible refine HRC.out.mono ?_); rintro e w' ⟨rfl, rfl⟩)))
        refine HCH.out.mono ?_
        rintro e w2 ⟨rfl, hb2⟩
        have HO2 := hid (HO.out.below hb2 (fun k hk => (HO.out.lt k hk).2))
        have HRS2 := hid (HRS.out.below hb2 (fun k hk => (HRS.out.lt k hk).2))
        have HB2 := hid (HB.out.trans (hb2.mono HB.out.size))
        have hsz2 := hb2.size
        clear hb2 HO HRS HB HCH HRC
        generalize letTab x = lt at *
        go_wp2_with (first | (go_at_call 71; ((with_reducible refine (HPX.out _).mono ?_); rintro e w' ⟨rfl, rfl⟩)) | (go_at_call 72; ((refine (HLT2.out _).mono ?_); rintro e w' ⟨rfl, rfl⟩)))
        go_roundw
        case rel => exact ⟨i + 5, s, lt, o, by omega, by omega, hlt5, by omega, rfl, rfl, rfl, by go_num, HRUN, HO2, HRS2, HB2, by omega⟩
        case measure => simp [intOf]; omega
    | few _ _ n _ hle hcn hn0 hle2 hl4' hnext =>
      rw [← HN.out] at hle hle2
      have hi1' : (i : Int) < (N : Int) := by omega
      have hle' : ¬ (N : Int) - (i : Int) < 5 := by omega
      have hrc : Calls Tryz.prog 64 #[.slice A N c, .int .i64 (i : Nat), .int .i64 5] wr (fun e w' => e = .returned (.int .i64 (n : Nat)) ∧ wr = w') := by rw [hcn]; exact readCodeM A N c b i 5 wr (HR.out.below (HB.out)) hn hle (by decide)
      have hn32 : n < 32 := by rw [hcn]; exact codeAt_lt b i 5
      have hn0' : ((n : Int) == 0) = false := by simp; omega
      have HRC := hid hrc
      have HRUN := hid hnext
      clear hrc hcn hnext
      obtain ⟨i0, hi0⟩ : ∃ i0, i0 = i + 5 := ⟨_, rfl⟩
      rw [← hi0] at HRUN hle2
      have hi01 : i0 ≤ i + 5 := by omega
      have hi02 : i + 5 ≤ i0 := by omega
      clear hi0
      go_wp2_with (first | (go_at_call 64; ((with_reducible refine HRC.out.mono ?_); rintro e w' ⟨rfl, rfl⟩)))
      clear HRC
      obtain ⟨wo, rfl⟩ : ∃ wo : World, wo = wr := ⟨_, rfl⟩
      go_loopw [10, 11, 13] (fun dv iv cv wr => ∃ (k j : Nat), k ≤ n ∧ j ≤ i0 + 8 * k ∧ i0 + 8 * k ≤ j ∧ iv = .int .i64 (j : Nat) ∧ cv = .int .i64 (k : Nat) ∧ Hid (Own wr (w.heap.size + 1) 5 dv (u8s (o ++ bytesAt b i0 k))) ∧ Hid (Own wr w.heap.size 5 rv []) ∧ Hid (Below w.heap.size w wr) ∧ w.heap.size + 1 < wr.heap.size) (fun _ _ cv _ => n - (intOf cv).toNat)
      case atStart => exact ⟨0, i0, by omega, by omega, by omega, by go_num, rfl, hid (by rw [bytesAt, List.append_nil]; exact HO.out), HRS, HB, hsz⟩
      case round =>
        clear HO HRS HB hsz
        obtain ⟨k, j, hk, hj1, hj2, rfl, rfl, HO, HRS, HB, hsz⟩ := hrel
        by_cases hkn : k < n
        case pos =>
          have hkn' : (k : Int) < (n : Int) := by omega
          have h8 : ¬ (N : Int) - (j : Int) < 8 := by omega
          have hlen : (u8s (o ++ bytesAt b i0 k)).length = o.length + k := by rw [u8s_len, List.length_append, bytesAt_len]
          have HNX := hid (show bytesAt b i0 (k + 1) = bytesAt b i0 k ++ [codeAt b j 8] by rw [bytesAt, show i0 + 8 * k = j by omega])
          have hrc : Calls Tryz.prog 64 #[.slice A N c, .int .i64 (j : Nat), .int .i64 8] wr (fun e w' => e = .returned (.int .i64 (codeAt b j 8 : Nat)) ∧ wr = w') := readCodeM A N c b j 8 wr (HR.out.below (HB.out)) hn (by omega) (by decide)
          have hv := codeAt_lt b j 8
          have HRC2 := hid hrc
          clear hrc
          generalize codeAt b j 8 = v at *
          have hv256 : (v : Int) < 256 := by omega
          have m1 := hid (show (u8s (o ++ bytesAt b i0 k)).length + 1 ≤ maxLen by rw [hlen]; simp [maxLen]; omega)
          have m2 := hid (show ((u8s (o ++ bytesAt b i0 k)).length + 1) * 1 ≤ 140737488355328 by rw [hlen]; omega)
          have m3 := hid (show w.heap.size + 1 ≤ (wr.alloc (.cells #[.int .u8 (v : Nat)] 5)).heap.size by simp; omega)
          clear hlen hv
          go_wp2_with (first | (go_at_call 64; ((with_reducible refine HRC2.out.mono ?_); rintro e w' ⟨rfl, rfl⟩)) | (at_builtin; refine wpList_app _ rfl (.tmp 72) (.tmp 75) 22 rfl (w.heap.size + 1) 5 i5 _ 1 Tryz.underlying22 hi hz0 hz1 hz2 rfl _ (u8s (o ++ bytesAt b i0 k)) rfl (HO.out.alloc _) _ 1 1 [.int .u8 (v : Nat)] rfl (Rd.one' _ _ _ _ rfl) (by intro u hu; rw [List.mem_singleton.1 hu]; rfl) m1.out m2.out m3.out ?_))
          intro v4 w4 hO4 hg4 hown4
          have HO4 := hid (show Own w4 (w.heap.size + 1) 5 v4 (u8s (o ++ bytesAt b i0 (k + 1))) from by rw [HNX.out, ← List.append_assoc]; unfold u8s at hO4 ⊢; rw [List.map_append]; exact hO4)
          have HRS4 := hid ((HRS.out.alloc (.cells #[.int .u8 (v : Nat)] 5)).keep hg4 (.inr (by rw [HRV.out]; intro hk; have := (HO.out.lt _ hk.symm).1; omega)))
          have HB4 := hid ((HB.out.alloc (by omega) (.cells #[.int .u8 (v : Nat)] 5)).grown hg4 (by simp; omega) (fun k hk => by have := (HO.out.lt k hk).1; omega))
          have hz5 : w.heap.size + 1 < w4.heap.size := Nat.lt_of_lt_of_le (by simp; omega) hg4.size
          clear hO4 hg4 hown4 HO HRS HB HRC2
          go_wp2_with fail
          go_roundw
          case rel => exact ⟨k + 1, j + 8, by omega, by omega, by omega, by go_num, by go_num, HO4, HRS4, HB4, hz5⟩
          case measure => simp [intOf]; omega
        case neg =>
          obtain rfl : k = n := by omega
          have hkn' : ¬ (k : Int) < (k : Int) := by omega
          go_wp2_with fail
          go_roundw
          case rel => exact ⟨j, l, l, _, by omega, by omega, by omega, by rw [List.length_append, bytesAt_len]; omega, rfl, rfl, rfl, rfl, by have := HRUN.out; rw [show j = i0 + 8 * k by omega]; exact HRUN, HO, HRS, HB, hsz⟩
          case measure => simp [intOf]; omega
    | many _ _ n _ hle hc0 hcn hle2 hl4' hnext =>
      rw [← HN.out] at hle hle2
      have hi1' : (i : Int) < (N : Int) := by omega
      have hle' : ¬ (N : Int) - (i : Int) < 5 := by omega
      have hrc : Calls Tryz.prog 64 #[.slice A N c, .int .i64 (i : Nat), .int .i64 5] wr (fun e w' => e = .returned (.int .i64 0) ∧ wr = w') := by have := readCodeM A N c b i 5 wr (HR.out.below (HB.out)) hn (by omega) (by decide); rw [hc0] at this; exact this
      have HRC := hid hrc
      obtain ⟨i5', hi5⟩ : ∃ i5', i5' = i + 5 := ⟨_, rfl⟩
      have hrc2 : Calls Tryz.prog 64 #[.slice A N c, .int .i64 (i5' : Nat), .int .i64 11] wr (fun e w' => e = .returned (.int .i64 (codeAt b i5' 11 : Nat)) ∧ wr = w') := readCodeM A N c b i5' 11 wr (HR.out.below (HB.out)) hn (by omega) (by decide)
      have hv2 := codeAt_lt b i5' 11
      rw [← hi5] at hcn
      generalize codeAt b i5' 11 = v2 at *
      have HRCB := hid hrc2
      have e11 : (i : Int) + 5 = (i5' : Nat) := by omega
      have hle3 : ¬ (N : Int) - (i5' : Int) < 11 := by omega
      have e31 : (v2 : Int) + 31 = (n : Nat) := by omega
      have hn3000 : n < 3000 := by omega
      have HRUN := hid hnext
      clear hrc hrc2 hc0 hnext
      obtain ⟨i0, hi0⟩ : ∃ i0, i0 = i + 16 := ⟨_, rfl⟩
      rw [← hi0] at HRUN hle2
      have e16 : (i5' : Int) + 11 = (i0 : Nat) := by omega
      have hi01 : i0 ≤ i + 16 := by omega
      have hi02 : i + 16 ≤ i0 := by omega
      clear hi0 hcn hi5
      go_wp2_with (first | (go_at_call 64; ((with_reducible refine HRC.out.mono ?_); rintro e w' ⟨rfl, rfl⟩)) | (go_at_call 64; ((with_reducible refine HRCB.out.mono ?_); rintro e w' ⟨rfl, rfl⟩)))
      clear HRC HRCB e11 e16 e31
      obtain ⟨wo, rfl⟩ : ∃ wo : World, wo = wr := ⟨_, rfl⟩
      go_loopw [10, 11, 13] (fun dv iv cv wr => ∃ (k j : Nat), k ≤ n ∧ j ≤ i0 + 8 * k ∧ i0 + 8 * k ≤ j ∧ iv = .int .i64 (j : Nat) ∧ cv = .int .i64 (k : Nat) ∧ Hid (Own wr (w.heap.size + 1) 5 dv (u8s (o ++ bytesAt b i0 k))) ∧ Hid (Own wr w.heap.size 5 rv []) ∧ Hid (Below w.heap.size w wr) ∧ w.heap.size + 1 < wr.heap.size) (fun _ _ cv _ => n - (intOf cv).toNat)
      case atStart => exact ⟨0, i0, by omega, by omega, by omega, by go_num, rfl, hid (by rw [bytesAt, List.append_nil]; exact HO.out), HRS, HB, hsz⟩
      case round =>
        clear HO HRS HB hsz
        obtain ⟨k, j, hk, hj1, hj2, rfl, rfl, HO, HRS, HB, hsz⟩ := hrel
        by_cases hkn : k < n
        case pos =>
          have hkn' : (k : Int) < (n : Int) := by omega
          have h8 : ¬ (N : Int) - (j : Int) < 8 := by omega
          have hlen : (u8s (o ++ bytesAt b i0 k)).length = o.length + k := by rw [u8s_len, List.length_append, bytesAt_len]
          have HNX := hid (show bytesAt b i0 (k + 1) = bytesAt b i0 k ++ [codeAt b j 8] by rw [bytesAt, show i0 + 8 * k = j by omega])
          have hrc : Calls Tryz.prog 64 #[.slice A N c, .int .i64 (j : Nat), .int .i64 8] wr (fun e w' => e = .returned (.int .i64 (codeAt b j 8 : Nat)) ∧ wr = w') := readCodeM A N c b j 8 wr (HR.out.below (HB.out)) hn (by omega) (by decide)
          have hv := codeAt_lt b j 8
          have HRC2 := hid hrc
          clear hrc
          generalize codeAt b j 8 = v at *
          have hv256 : (v : Int) < 256 := by omega
          have m1 := hid (show (u8s (o ++ bytesAt b i0 k)).length + 1 ≤ maxLen by rw [hlen]; simp [maxLen]; omega)
          have m2 := hid (show ((u8s (o ++ bytesAt b i0 k)).length + 1) * 1 ≤ 140737488355328 by rw [hlen]; omega)
          have m3 := hid (show w.heap.size + 1 ≤ (wr.alloc (.cells #[.int .u8 (v : Nat)] 5)).heap.size by simp; omega)
          clear hlen hv
          go_wp2_with (first | (go_at_call 64; ((with_reducible refine HRC2.out.mono ?_); rintro e w' ⟨rfl, rfl⟩)) | (at_builtin; refine wpList_app _ rfl (.tmp 72) (.tmp 75) 22 rfl (w.heap.size + 1) 5 i5 _ 1 Tryz.underlying22 hi hz0 hz1 hz2 rfl _ (u8s (o ++ bytesAt b i0 k)) rfl (HO.out.alloc _) _ 1 1 [.int .u8 (v : Nat)] rfl (Rd.one' _ _ _ _ rfl) (by intro u hu; rw [List.mem_singleton.1 hu]; rfl) m1.out m2.out m3.out ?_))
          intro v4 w4 hO4 hg4 hown4
          have HO4 := hid (show Own w4 (w.heap.size + 1) 5 v4 (u8s (o ++ bytesAt b i0 (k + 1))) from by rw [HNX.out, ← List.append_assoc]; unfold u8s at hO4 ⊢; rw [List.map_append]; exact hO4)
          have HRS4 := hid ((HRS.out.alloc (.cells #[.int .u8 (v : Nat)] 5)).keep hg4 (.inr (by rw [HRV.out]; intro hk; have := (HO.out.lt _ hk.symm).1; omega)))
          have HB4 := hid ((HB.out.alloc (by omega) (.cells #[.int .u8 (v : Nat)] 5)).grown hg4 (by simp; omega) (fun k hk => by have := (HO.out.lt k hk).1; omega))
          have hz5 : w.heap.size + 1 < w4.heap.size := Nat.lt_of_lt_of_le (by simp; omega) hg4.size
          clear hO4 hg4 hown4 HO HRS HB HRC2
          go_wp2_with fail
          go_roundw
          case rel => exact ⟨k + 1, j + 8, by omega, by omega, by omega, by go_num, by go_num, HO4, HRS4, HB4, hz5⟩
          case measure => simp [intOf]; omega
        case neg =>
          obtain rfl : k = n := by omega
          have hkn' : ¬ (k : Int) < (k : Int) := by omega
          go_wp2_with fail
          go_roundw
          case rel => exact ⟨j, l, l, _, by omega, by omega, by omega, by rw [List.length_append, bytesAt_len]; omega, rfl, rfl, rfl, rfl, by have := HRUN.out; rw [show j = i0 + 8 * k by omega]; exact HRUN, HO, HRS, HB, hsz⟩
          case measure => simp [intOf]; omega
    | cut _ _ n hle hcn hn0 hsh =>
      rw [← HN.out] at hle hsh
      have hi1' : (i : Int) < (N : Int) := by omega
      have hle' : ¬ (N : Int) - (i : Int) < 5 := by omega
      have hrc : Calls Tryz.prog 64 #[.slice A N c, .int .i64 (i : Nat), .int .i64 5] wr (fun e w' => e = .returned (.int .i64 (n : Nat)) ∧ wr = w') := by rw [hcn]; exact readCodeM A N c b i 5 wr (HR.out.below (HB.out)) hn hle (by decide)
      have hn32 : n < 32 := by rw [hcn]; exact codeAt_lt b i 5
      have hn0' : ((n : Int) == 0) = false := by simp; omega
      have hn0'' : (0 : Int) < (n : Int) := by omega
      have HRC := hid hrc
      clear hrc hcn
      obtain ⟨i0, hi0⟩ : ∃ i0, i0 = i + 5 := ⟨_, rfl⟩
      have e5 : (i : Int) + 5 = (i0 : Nat) := by omega
      have h8 : (N : Int) - (i0 : Int) < 8 := by omega
      have hi01 : i0 ≤ i + 5 := by omega
      have hi02 : i + 5 ≤ i0 := by omega
      clear hi0
      go_wp2_with (first | (go_at_call 64; ((with_reducible refine HRC.out.mono ?_); rintro e w' ⟨rfl, rfl⟩)))
      clear HRC e5
      obtain ⟨wo, rfl⟩ : ∃ wo : World, wo = wr := ⟨_, rfl⟩
      go_loopw [10, 11, 13] (fun dv iv cv wr => ∃ ov, ov = dv ∧ iv = .int .i64 (i0 : Nat) ∧ cv = .int .i64 0 ∧ Hid (Own wr (w.heap.size + 1) 5 dv (u8s X)) ∧ Hid (Own wr w.heap.size 5 rv []) ∧ Hid (Below w.heap.size w wr) ∧ w.heap.size + 1 < wr.heap.size) (fun _ _ cv _ => n - (intOf cv).toNat)
      case atStart => exact ⟨_, rfl, by go_num, rfl, HO, HRS, HB, hsz⟩
      case round =>
        clear HO HRS HB hsz
        obtain ⟨ov, rfl, rfl, rfl, HO, HRS, HB, hsz⟩ := hrel
        have HDN := hid (Runs.done (b := b) (X := X) N l l (by rw [← HN.out]; exact Nat.le_refl _))
        go_wp2_with fail
        go_roundw
        case rel => exact ⟨N, l, l, X, by omega, by omega, by omega, by omega, rfl, rfl, rfl, rfl, HDN, HO, HRS, HB, hsz⟩
        case measure => simp [intOf]; omega
end Go.Proofs.YtliephokeafllaaGreatDoor
