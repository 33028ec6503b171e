/- laws.dmParsed. -/
import Derived.Test.YtfmjkflihnfneaaDoorDoB
import Derived.Test.YtfmjkflihnfneaaDoorDnM
import Derived.Test.YtfmjkflihnfneaaDoorDnN
import Derived.Test.YtfmjkflihnfneaaDoorDnK
namespace Go.Proofs.YtfmjkflihnfneaaDoor
open Go.RowKit
set_option linter.unusedVariables false
set_option linter.unusedSimpArgs false

theorem asciiW_lt : ∀ s : List Nat, (∀ c ∈ s, c ≤ 127) → ∀ x ∈ asciiW s, x < 256
  | [], _, x, h => by simp [asciiW] at h
  | [a], h127, x, h => by
    simp only [asciiW, List.mem_singleton] at h
    have := h127 a (by simp); omega
  | a :: b :: t, h127, x, h => by
    have ih1 := asciiW_lt t (fun c hc => h127 c (by simp [hc]))
    have ih2 := asciiW_lt (b :: t) (fun c hc => h127 c (by simp at hc ⊢; exact .inr hc))
    unfold asciiW at h
    split at h
    · rename_i hd
      simp only [Bool.and_eq_true, isDig, decide_eq_true_eq] at hd
      rcases List.mem_cons.1 h with h | h
      · omega
      · exact ih1 x h
    · rcases List.mem_cons.1 h with h | h
      · have := h127 a (by simp); omega
      · exact ih2 x h
theorem triW_lt : ∀ l : List Nat, (∀ v ∈ l, v < 40) → ∀ x ∈ triW l, x < 256
  | [], _, x, h => by simp [triW] at h
  | [_], _, x, h => by simp [triW] at h
  | [_, _], _, x, h => by simp [triW] at h
  | a :: b :: c :: t, h40, x, h => by
    have ih := triW_lt t (fun v hv => h40 v (by simp [hv]))
    have ha := h40 a (by simp)
    have hb := h40 b (by simp)
    have hc := h40 c (by simp)
    unfold triW at h
    rcases List.mem_cons.1 h with h | h
    · omega
    rcases List.mem_cons.1 h with h | h
    · omega
    · exact ih x h
theorem segW_lt (m : Nat) (s : List Nat) (bf : Nat) (h : inMode m s = true) : ∀ x ∈ segW m s bf, x < 256 := by
  obtain ⟨hm5, hc⟩ := inMode_ok h
  have ha := asciiW_lt s (fun c hcc => (hc c hcc).1)
  intro x hx
  unfold segW at hx
  by_cases h0 : s = []
  · rw [if_pos h0] at hx; cases hx
  rw [if_neg h0] at hx
  by_cases h1 : m = 0
  · rw [if_pos h1] at hx; exact ha x hx
  rw [if_neg h1] at hx
  by_cases h2 : m = 4
  · rw [if_pos h2, sixW] at hx
    rcases List.mem_cons.1 hx with h | h
    · omega
    · exact (six_all (sixV s) (sixV_lt s) (s.length + 1)).2.1 x h
  rw [if_neg h2] at hx
  by_cases h3 : m = 5
  · rw [if_pos h3, byteW] at hx
    rcases List.mem_cons.1 hx with h | h
    · omega
    · obtain ⟨i, _, rfl⟩ := List.mem_map.1 h
      exact Nat.mod_lt _ (by decide)
  rw [if_neg h3] at hx
  unfold threeW at hx
  split at hx
  · exact ha x hx
  · rcases List.mem_cons.1 hx with h | h
    · rw [h]; exact latchOf_lt m
    rcases List.mem_append.1 h with h | h
    · exact triW_lt _ (fun v hv => ints_lt40 m (by omega) (by omega) s (fun c hcc => ⟨(hc c hcc).1, (hc c hcc).2.1⟩) v (List.mem_of_mem_take hv)) x h
    rcases List.mem_cons.1 h with h | h
    · omega
    · exact asciiW_lt _ (fun c hcc => (hc c (List.mem_of_mem_drop hcc)).1) x h
theorem script_lt (l : List (Nat × List Nat)) (hl : ∀ x ∈ l, inMode x.1 x.2 = true) : ∀ k, k ≤ l.length → ∀ x ∈ scriptTo l k, x < 256
  | 0, _, x, h => by cases h
  | k + 1, hk, x, h => by
    rw [scriptTo] at h
    rcases List.mem_append.1 h with h | h
    · exact script_lt l hl k (by omega) x h
    · exact segW_lt _ _ _ (hl _ (by rw [List.getD, List.getElem?_eq_getElem (by omega)]; exact List.getElem_mem _)) x h
theorem padW_lt (l : List Nat) (n : Nat) (h : ∀ x ∈ l, x < 256) : ∀ x ∈ padW l n, x < 256 := by
  intro x hx
  rcases List.mem_append.1 hx with hx | hx
  · exact h x hx
  · obtain ⟨i, _, rfl⟩ := List.mem_map.1 hx
    have := Nat.mod_lt (149 * (l.length + i + 1)) (show 0 < 253 by decide)
    unfold padN
    split
    · omega
    · split <;> omega
theorem padW_len (l : List Nat) (n : Nat) (h : l.length ≤ n) : (padW l n).length = n := by simp [padW]; omega
/-- The law's part on any segments. -/
theorem says_ok (l : List (Int × List Nat)) (h40 : l.length ≤ 40) (hin : ∀ x ∈ l, inModeZ x.1 x.2 = true ∧ x.2.length ≤ 1555) (n : Nat) (hn : (scriptTo (natS l) l.length).length + 3 ≤ n) :
    Says (padW (scriptTo (natS l) l.length) n) (saidTo (natS l) l.length) 1 0 [] ∧ (∀ x ∈ padW (scriptTo (natS l) l.length) n, x < 256) ∧ (saidTo (natS l) l.length).length ≤ 64000 := by
  have hnl : (natS l).length = l.length := by simp [natS]
  have hin' : ∀ x ∈ natS l, inMode x.1 x.2 = true ∧ x.2.length ≤ 1600 := fun x hx => by
    obtain ⟨y, hy, rfl⟩ := List.mem_map.1 hx
    obtain ⟨h1, h2⟩ := hin y hy
    have h0 : 0 ≤ y.1 := by simp only [inModeZ, Bool.and_eq_true, decide_eq_true_eq] at h1; exact h1.2.1
    refine ⟨inModeZ_nat _ _ ?_, by simp only; omega⟩
    rw [show ((y.1.toNat : Nat) : Int) = y.1 from by omega]
    exact h1
  have h1 := script_says (natS l) hin' n (by rw [hnl]; exact hn)
  rw [hnl] at h1
  refine ⟨h1, padW_lt _ n (script_lt (natS l) (fun x hx => (hin' x hx).1) l.length (by omega)), ?_⟩
  have := said_len l (fun x hx => by have := (hin x hx).2; omega) l.length (Nat.le_refl _)
  omega
theorem keepStr {w w' w2 : World} {g : Nat} {st : ByteArray} (h : w'.cell? ⟨g, 0, none⟩ = some (.string st) ∧ g < w'.heap.size ∧ Below w.heap.size w w') (hb : Below w'.heap.size w' w2) : w2.cell? ⟨g, 0, none⟩ = some (.string st) ∧ g < w2.heap.size ∧ Below w.heap.size w w2 :=
  ⟨(hb.cell (p := ⟨g, 0, none⟩) h.2.1).trans h.1, Nat.lt_of_lt_of_le h.2.1 hb.size, h.2.2.trans (hb.mono h.2.2.size)⟩
theorem keepStrD {w w' : World} {g : Nat} {st : ByteArray} {n : Nat} (h : w'.cell? ⟨g, 0, none⟩ = some (.string st) ∧ g < w'.heap.size ∧ Below w.heap.size w w') : (w'.drewN n).cell? ⟨g, 0, none⟩ = some (.string st) ∧ g < (w'.drewN n).heap.size ∧ Below w.heap.size w (w'.drewN n) :=
  ⟨h.1, h.2.1, below_drewN h.2.2 n⟩
def TrueBelow (w : World) (e : Ending) (w' : World) : Prop := e = .returned (.bool true) ∧ Below w.heap.size w w'
set_option maxRecDepth 20000 in
set_option maxHeartbeats 8000000 in
theorem parsedM (l : List (Int × List Nat)) (hl : ∀ x ∈ l, x.2.length ≤ 2147483647 ∧ ∀ c ∈ x.2, c < 256) (hz : ∀ x ∈ l, -9223372036854775808 ≤ x.1 ∧ x.1 ≤ 9223372036854775807) (hln : l.length ≤ 2147483647) (A : Option Addr) (c : Nat)
    (z : Int) (hz1 : -9223372036854775808 ≤ z) (hz2 : z ≤ 9223372036854775807) (w : World) (hS : Segs w A l.length l) :
    Calls Tryd.prog 6 #[.slice A l.length c, .int .i64 z] w (TrueBelow w) := by
  have HSC := hid (dmScriptM l hl hz hln A c w hS)
  have HS := hid hS
  obtain ⟨N, hN⟩ : ∃ N, N = l.length := ⟨_, rfl⟩
  have HN := hid hN
  have HZ1 := hid hz1
  have HZ2 := hid hz2
  rw [← hN] at HSC HS ⊢
  clear hS hl hz hln hN
  go_enter Tryd.func6, Tryd.ntmps6
  go_wp2_with fail
  refine HSC.out.mono ?_
  rintro e w1 ⟨hor, hb1⟩
  have HB1 := hid hb1
  clear hb1 HSC
  rcases hor with rfl | ⟨h40, hin, v, rfl, hO⟩
  · go_wp2_with fail
    refine (sizedM none 0 0 (by omega) z HZ1.out HZ2.out w1).mono ?_
    rintro e w2 ⟨hor, hb2⟩
    have HB2 := hid (HB1.out.trans (hb2.mono HB1.out.size))
    clear hb2
    rcases hor with rfl | ⟨k, hk, hk2, rfl⟩
    · go_wp2_with fail
      go_ret
      exact ⟨rfl, HB2.out.alloc HB2.out.size _⟩
    · unfold szAgg
      go_wp2_with fail
      go_ret
      exact ⟨rfl, HB2.out.alloc HB2.out.size _⟩
  · rw [← HN.out] at h40
    have HIN := hid hin
    have HSY := hid (fun n (hn : (scriptTo (natS l) l.length).length + 3 ≤ n) => says_ok l (by rw [← HN.out]; exact h40) hin n hn)
    obtain ⟨P, hP⟩ : ∃ P, P = scriptTo (natS l) l.length := ⟨_, rfl⟩
    have hPl : P.length ≤ 200000 := by
      have := script_len (natS l) (fun x hx => by
        obtain ⟨y, hy, rfl⟩ := List.mem_map.1 hx
        have := (hin y hy).2; simp only; omega) l.length (by simp [natS])
      rw [hP, ← HN.out] at *; omega
    obtain ⟨X, hX⟩ : ∃ X, X = saidTo (natS l) l.length := ⟨_, rfl⟩
    have HSD := hid (fun W A c (h : Segs W A l.length l) => hX ▸ saidM l (by rw [← HN.out]; exact h40) (fun x hx => by have := (hin x hx).2; omega) A c W h)
    rw [← hP, ← hX] at HSY
    rw [← hP] at hO
    rw [← HN.out] at HSD
    obtain ⟨A9, c9, rfl, hR9, _⟩ := hO.form
    obtain ⟨M, hM⟩ : ∃ M, M = P.length := ⟨_, rfl⟩
    rw [u8s_len, ← hM] at hO hR9 ⊢
    have HM := hid hM
    rw [← hM] at hPl HSY
    have HR9 := hid hR9
    clear hin hP hX hM hR9 hO
    go_wp2_with fail
    refine (sizedM A9 M c9 (by omega) z HZ1.out HZ2.out w1).mono ?_
    rintro e w2 ⟨hor, hb2⟩
    have HB2 := hid (HB1.out.trans (hb2.mono HB1.out.size))
    have HR2 := hid (HR9.out.below hb2)
    clear hb2
    rcases hor with rfl | ⟨k, hk, hk2, rfl⟩
    · go_wp2_with fail
      go_ret
      exact ⟨rfl, HB2.out.alloc HB2.out.size _⟩
    · unfold szAgg
      have hmx := szf_le k 4 hk (by omega)
      generalize szf k 0 = a0 at *
      generalize szf k 1 = a1 at *
      generalize szf k 2 = a2 at *
      generalize szf k 3 = a3 at *
      generalize szf k 4 = a4 at *
      generalize szf k 5 = a5 at *
      generalize szf k 6 = a6 at *
      obtain ⟨hsy, hlt, hXl⟩ := HSY.out a4 hk2
      have HSY2 := hid hsy
      have HLT := hid (fun j => getD_lt _ hlt j)
      have hpl := padW_len P a4 (by rw [← HM.out]; omega)
      have HPM := hid (fun W A c (h : Rd W A M (u8s P)) => show Calls Tryd.prog 11 #[.slice A M c, .int .i64 (a4 : Nat)] W (BytesNew (padW P a4) W) from by rw [HM.out] at h ⊢; exact paddedM P (by rw [← HM.out]; omega) a4 (by omega) A c W h)
      have HPS := hid (fun W A c (h : Rd W A a4 (u8s (padW P a4))) => show Calls Tryd.prog 10 #[.slice A a4 c] W (DecOut (strOf X) W) from by rw [← hpl] at h ⊢; exact parseM (padW P a4) X A c W (by rw [hpl] at h ⊢; exact h) HLT.out (by omega) HSY2.out (by omega))
      have HB3 := hid (HB2.out.alloc HB2.out.size (.cells #[.int .i64 (a0 : Nat), .int .i64 (a1 : Nat), .int .i64 (a2 : Nat), .int .i64 (a3 : Nat), .int .i64 (a4 : Nat), .int .i64 (a5 : Nat), .int .i64 (a6 : Nat)] 32))
      have HR3 := hid (HR2.out.alloc (.cells #[.int .i64 (a0 : Nat), .int .i64 (a1 : Nat), .int .i64 (a2 : Nat), .int .i64 (a3 : Nat), .int .i64 (a4 : Nat), .int .i64 (a5 : Nat), .int .i64 (a6 : Nat)] 32))
      have HPL := hid hpl
      clear hsy hlt hpl HR2 HB2 HR9 hmx
      go_wp2_with fail
      refine (HPM.out _ A9 c9 HR3.out).mono ?_
      rintro e w3 ⟨v3, rfl, hO3, hb3⟩
      obtain ⟨A3, c3, rfl, hR3, _⟩ := hO3.form
      rw [u8s_len, HPL.out] at hR3 ⊢
      have HR5 := hid hR3
      have HB4 := hid (HB3.out.trans (hb3.mono HB3.out.size))
      clear hO3 hb3 hR3 HPM HR3 HB3
      go_wp2_with fail
      refine (HPS.out _ A3 c3 HR5.out).mono ?_
      rintro e w4 ⟨y1, y2, y3, n4, n5, n6, n7, x3, A1, A2, m1, c1, m2, c2, rfl, hb4⟩
      have HB5 := hid ((HB4.out.trans (hb4.mono HB4.out.size)).alloc (Nat.le_trans HB4.out.size hb4.size) (.cells #[.string (strOf X), .slice A1 m1 c1, .slice A2 m2 c2, .string x3, .int .i64 n4, .int .i64 n5, .int .i64 n6, .int .i64 n7] 37))
      have hc := (Arr.of_new w4 37 #[.string (strOf X), .slice A1 m1 c1, .slice A2 m2 c2, .string x3, .int .i64 n4, .int .i64 n5, .int .i64 n6, .int .i64 n7]).cell? 0
      simp only [List.getElem?_cons_zero] at hc
      have hc0 : w4.heap.size < (w4.alloc (.cells #[.string (strOf X), .slice A1 m1 c1, .slice A2 m2 c2, .string x3, .int .i64 n4, .int .i64 n5, .int .i64 n6, .int .i64 n7] 37)).heap.size := by simp
      have HSG := hid (fun V (h : Below w.heap.size w V) => HSD.out V A c (HS.out.below h))
      clear hb4 HB4 HPS HR5 HSY2 HLT HSY
      generalize strOf X = st at *
      go_wp2_with fail
      have HC := hid hc
      have HC0 := hid hc0
      clear hc hc0
      go_region_held3 (fun w' => w'.cell? ⟨w4.heap.size, 0, none⟩ = some (.string st) ∧ w4.heap.size < w'.heap.size ∧ Below w.heap.size w w')
        (first | exact ⟨HC.out, HC0.out, HB5.out⟩ | exact ⟨HC.out, HC0.out, HB5.out.drew⟩ | exact keepStr (by assumption) (by assumption) | exact keepStrD (by assumption))
        (first | (go_at_call 12; ((with_reducible refine (HSG.out _ ?_).mono ?_); (first | exact HB5.out | exact HB5.out.drew | exact (And.right (And.right (by assumption)))); rintro e w5 ⟨rfl, hb5⟩)))
      all_goals (
        have hfin : w5.cell? ⟨w4.heap.size, 0, none⟩ = some (.string st) ∧ w4.heap.size < w5.heap.size ∧ Below w.heap.size w w5 := by assumption
        go_wp2_with fail
        go_ret
        exact ⟨rfl, hfin.2.2⟩)
end Go.Proofs.YtfmjkflihnfneaaDoor
