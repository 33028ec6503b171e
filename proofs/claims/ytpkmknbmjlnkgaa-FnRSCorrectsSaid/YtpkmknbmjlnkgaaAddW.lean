/- The sum of two polynomials. -/
import Derived.Test.YtpkmknbmjlnkgaaPolyM
import Derived.Laws.CopyOwn
import Derived.Deep.DrawnRows
import Derived.Lib.Builder
namespace Go.Proofs.Ytpkmknbmjlnkgaa
open Go.RowKit
set_option linter.unusedVariables false

/-- The sum of a list and of one that is no shorter, by the ends. -/
def addSL (s l : List Nat) : List Nat := List.zipWith (· ^^^ ·) (List.replicate (l.length - s.length) 0 ++ s) l
/-- The sum of two lists, by the ends. -/
def addL (a b : List Nat) : List Nat := if b.length < a.length then addSL b a else addSL a b

section
variable {p m : Nat}
theorem addSL_len {s l : List Nat} (h : s.length ≤ l.length) : (addSL s l).length = l.length := by simp [addSL]; omega
theorem addL_len (a b : List Nat) : (addL a b).length = max a.length b.length := by
  unfold addL
  split
  · rw [addSL_len (by omega)]; omega
  · rw [addSL_len (by omega)]; omega
theorem addSL_low {s l : List Nat} (h : s.length ≤ l.length) (i : Nat) (hi : i < l.length - s.length) : (addSL s l).getD i 0 = l.getD i 0 := by
  unfold addSL
  rw [List.getD, List.getElem?_zipWith, List.getElem?_append_left (by simpa using hi), List.getElem?_replicate, if_pos hi, List.getElem?_eq_getElem (by omega)]
  simp [List.getD, List.getElem?_eq_getElem (show i < l.length by omega)]
theorem addSL_high {s l : List Nat} (h : s.length ≤ l.length) (i : Nat) (hi : l.length - s.length ≤ i) (hl : i < l.length) : (addSL s l).getD i 0 = s.getD (i - (l.length - s.length)) 0 ^^^ l.getD i 0 := by
  unfold addSL
  rw [List.getD, List.getElem?_zipWith, List.getElem?_append_right (by simpa using hi), List.length_replicate, List.getElem?_eq_getElem (show i - (l.length - s.length) < s.length by omega), List.getElem?_eq_getElem hl]
  simp [List.getD, List.getElem?_eq_getElem (show i < l.length by omega), List.getElem?_eq_getElem (show i - (l.length - s.length) < s.length by omega)]
theorem allIn_of_getD {l : List Nat} (h : ∀ i, i < l.length → l.getD i 0 < 2 ^ m) : AllIn m l := by
  intro x hx
  obtain ⟨i, hi, rfl⟩ := List.getElem_of_mem hx
  have := h i hi
  rwa [List.getD, List.getElem?_eq_getElem hi] at this
theorem addSL_in (h : IsGF p m) {s l : List Nat} (hle : s.length ≤ l.length) (hs : AllIn m s) (hl : AllIn m l) : AllIn m (addSL s l) := by
  apply allIn_of_getD
  intro i hi
  rw [addSL_len hle] at hi
  rcases Nat.lt_or_ge i (l.length - s.length) with h1 | h1
  · rw [addSL_low hle i h1]; exact getD_lt h hl i
  · rw [addSL_high hle i h1 hi]; exact Nat.xor_lt_two_pow (getD_lt h hs _) (getD_lt h hl _)
theorem addL_in (h : IsGF p m) {a b : List Nat} (ha : AllIn m a) (hb : AllIn m b) : AllIn m (addL a b) := by
  unfold addL
  split
  · exact addSL_in h (by omega) hb ha
  · exact addSL_in h (by omega) ha hb
theorem addSL_take {s l : List Nat} (h : s.length ≤ l.length) : (addSL s l).take (l.length - s.length) = l.take (l.length - s.length) := by
  apply List.ext_getElem
  · simp [addSL_len h]
  · intro i h1 h2
    have hi : i < l.length - s.length := by simp at h1; omega
    have := addSL_low h i hi
    rw [List.getD, List.getD, List.getElem?_eq_getElem (by rw [addSL_len h]; omega), List.getElem?_eq_getElem (by omega)] at this
    simpa using this
theorem ext_getD {l k : List Nat} (hl : l.length = k.length) (h : ∀ i, i < l.length → l.getD i 0 = k.getD i 0) : l = k := by
  apply List.ext_getElem hl
  intro i h1 h2
  have := h i h1
  rw [List.getD, List.getD, List.getElem?_eq_getElem h1, List.getElem?_eq_getElem h2] at this
  simpa using this
theorem addL_zero (b : List Nat) (h1 : 1 ≤ b.length) : addL [0] b = b := by
  unfold addL
  rw [if_neg (by simp only [List.length_singleton]; omega)]
  apply ext_getD (addSL_len (by simpa using h1))
  intro i hi
  rw [addSL_len (by simpa using h1)] at hi
  rcases Nat.lt_or_ge i (b.length - 1) with h2 | h2
  · rw [addSL_low (by simpa using h1) i (by simpa using h2)]
  · rw [addSL_high (by simpa using h1) i (by simpa using h2) hi]
    simp only [List.length_singleton]
    rw [show i - (b.length - 1) = 0 from by omega]
    simp
theorem addSL_comm {a b : List Nat} (h : a.length = b.length) : addSL a b = addSL b a := by
  apply ext_getD (by rw [addSL_len (by omega), addSL_len (by omega), h])
  intro i hi
  rw [addSL_len (by omega)] at hi
  rw [addSL_high (by omega) i (by omega) hi, addSL_high (by omega) i (by omega) (by omega), h, Nat.sub_self, Nat.sub_zero, Nat.xor_comm]
theorem addL_comm (a b : List Nat) : addL a b = addL b a := by
  unfold addL
  rcases Nat.lt_trichotomy a.length b.length with h | h | h
  · rw [if_neg (by omega), if_pos h]
  · rw [if_neg (by omega), if_neg (by omega), addSL_comm h]
  · rw [if_pos h, if_neg (by omega)]
theorem tidy_zero {l : List Nat} (hT : tidy l = l) (h1 : 1 ≤ l.length) (h0 : l.getD 0 0 = 0) : l = [0] := by
  have := (tidy_cases l).2.2.1
  rw [hT] at this
  rcases this with h | h
  · exact absurd h0 h
  · match l, h with
    | [x], _ => simp at h0; rw [h0]
end

theorem splice_start (n d : Nat) (xs : List Nat) (hd : d ≤ n) (hx : xs.length = d) : splice (List.replicate n (Value.int .i64 0)) 0 (ints xs) = ints (xs ++ List.replicate (n - d) 0) := by
  simp [splice, ints, hx]

theorem info78 : (Try.prog.info? 78).isSome = true := by kernel_rfl
theorem neqF (g : Nat) (w : World) : (binOp .neq 53 (.pointer (some ⟨g, 0, none⟩)) (.pointer (some ⟨g, 0, none⟩))).run Try.prog w = .ok (.bool false) w := by
  obtain ⟨j, hj⟩ := Option.isSome_iff_exists.1 info78
  exact Lib.run_neq_ptr_same w _ Try.underlying53 hj

theorem IsPoly.coefR {w : World} {B q : Nat} {F : Value} {l : List Nat} (h : IsPoly w B q F l) (h1 : 1 ≤ l.length) :
    ∃ b o c, w.cell? ⟨q, 0, none⟩ = some F ∧ w.cell? ⟨q, 1, none⟩ = some (.slice (some ⟨b, o, none⟩) l.length c) ∧ (∀ k, k < l.length → w.cell? ⟨b, o + k, none⟩ = some (.int .i64 (l.getD k 0 : Nat))) ∧
      Rd w (some ⟨b, o, none⟩) l.length (ints l) ∧ l.length ≤ c ∧ b < w.heap.size := by
  obtain ⟨_, A, n, c, _, hnc, hq, hR⟩ := h
  have hl : l.length = n := by have := hR.1; simpa [ints] using this
  subst hl
  obtain ⟨b, o, rfl, hb, _⟩ := rd_int hR 0 (by omega)
  refine ⟨b, o, c, hq.cell? 0, hq.cell? 1, fun k hk => ?_, hR, hnc, hb⟩
  obtain ⟨b', o', he, _, hc⟩ := rd_int hR k hk
  cases he
  exact hc

theorem addSub0 (q1 q2 g B1 B2 : Nat) (a b : List Nat) (w : World) (hP1 : IsPoly w B1 q1 (fieldPtr g) a) (hP2 : IsPoly w B2 q2 (fieldPtr g) b) (ha1 : 1 ≤ a.length) (hb1 : 1 ≤ b.length) (ha : a.length ≤ 100000) (hb : b.length ≤ 100000) (h0 : a.getD 0 0 = 0) :
    Calls Try.prog 71 #[fieldPtr q1, fieldPtr q2] w (PtrOk (fieldPtr g) b w) := by
  obtain ⟨b1, o1, k1, c0, c1, hc1⟩ := hP1.coef ha1
  obtain ⟨b2, o2, k2, e0, e1, hc2⟩ := hP2.coef hb1
  have z := isZeroT q1 B1 _ a w hP1 ha1 (by omega) h0
  have z' : ∀ n, Calls Try.prog 68 #[fieldPtr q1] (w.drewN n) (SameOut (.bool true) (w.drewN n)) := fun n => isZeroT q1 B1 _ a (w.drewN n) hP1 ha1 (by omega) h0
  have HP2 := hid hP2
  clear hc1 hc2 hP1 hP2 h0
  have hneq := neqF g
  unfold fieldPtr at *
  go_enter Try.func71, Try.ntmps71
  go_wp2_with fail
  go_quiet (fail)
  clear hneq
  go_wp2_with fail
  refine (z' _).mono ?_
  rintro e w1 ⟨rfl, rfl⟩
  clear z z'
  go_wp2_with fail
  go_ret2
  exact ⟨q2, B2, rfl, HP2.out, below_drewN (Below.refl _ _) _⟩

theorem addSub1 (q1 q2 g B1 B2 : Nat) (a b : List Nat) (w : World) (hP1 : IsPoly w B1 q1 (fieldPtr g) a) (hP2 : IsPoly w B2 q2 (fieldPtr g) b) (ha1 : 1 ≤ a.length) (hb1 : 1 ≤ b.length) (ha : a.length ≤ 100000) (hb : b.length ≤ 100000) (h0 : a.getD 0 0 ≠ 0) (h2 : b.getD 0 0 = 0) :
    Calls Try.prog 71 #[fieldPtr q1, fieldPtr q2] w (PtrOk (fieldPtr g) a w) := by
  obtain ⟨b1, o1, k1, c0, c1, hc1⟩ := hP1.coef ha1
  obtain ⟨b2, o2, k2, e0, e1, hc2⟩ := hP2.coef hb1
  have z' : ∀ n, Calls Try.prog 68 #[fieldPtr q1] (w.drewN n) (SameOut (.bool false) (w.drewN n)) := fun n => isZeroF q1 B1 _ a (w.drewN n) hP1 ha1 (by omega) h0
  have z2 : ∀ n, Calls Try.prog 68 #[fieldPtr q2] (w.drewN n) (SameOut (.bool true) (w.drewN n)) := fun n => isZeroT q2 B2 _ b (w.drewN n) hP2 hb1 (by omega) h2
  have HP1 := hid hP1
  clear hc1 hc2 hP1 hP2 h0 h2
  have hneq := neqF g
  unfold fieldPtr at *
  go_enter Try.func71, Try.ntmps71
  go_wp2_with fail
  go_quiet (fail)
  clear hneq
  go_wp2_with fail
  refine (z' _).mono ?_
  rintro e w1 ⟨rfl, rfl⟩
  clear z'
  go_wp2_with fail
  refine (z2 _).mono ?_
  rintro e w1 ⟨rfl, rfl⟩
  clear z2
  go_wp2_with fail
  go_ret2
  exact ⟨q1, B1, rfl, HP1.out, below_drewN (Below.refl _ _) _⟩

attribute [local go_sem ↓] Go.wp_at_zero Go.wp_at_succ
set_option maxRecDepth 100000 in
set_option maxHeartbeats 2000000 in
theorem addSub2 (q1 q2 g p m base B1 B2 : Nat) (a b : List Nat) (w : World) (h : IsGF p m) (hP1 : IsPoly w B1 q1 (fieldPtr g) a) (hP2 : IsPoly w B2 q2 (fieldPtr g) b) (ha1 : 1 ≤ a.length) (hb1 : 1 ≤ b.length) (ha : a.length ≤ 100000) (hb : b.length ≤ 100000) (hA : AllIn m a) (hB : AllIn m b) (h0 : a.getD 0 0 ≠ 0) (h2 : b.getD 0 0 ≠ 0) (hle : b.length < a.length) :
    Calls Try.prog 71 #[fieldPtr q1, fieldPtr q2] w (PtrOk (fieldPtr g) (tidy (addSL b a)) w) := by
  obtain ⟨i0, hi, hz0, hz1, hz2⟩ := info_parts info3
  have hN1 : 2 ^ m ≤ 4096 := Nat.pow_le_pow_right (n := 2) (by omega) h.small
  have l1 := hP1.lt
  have l2 := hP2.lt
  obtain ⟨ba, oa, ca, c0, c1, hca, hRa, hcapa, hla⟩ := hP1.coefR ha1
  obtain ⟨bb, ob, cb, e0, e1, hcb, hRb, hcapb, hlb⟩ := hP2.coefR hb1
  have z' : ∀ n, Calls Try.prog 68 #[fieldPtr q1] (w.drewN n) (SameOut (.bool false) (w.drewN n)) := fun n => isZeroF q1 B1 _ a (w.drewN n) hP1 ha1 (by omega) h0
  have z2 : ∀ n, Calls Try.prog 68 #[fieldPtr q2] (w.drewN n) (SameOut (.bool false) (w.drewN n)) := fun n => isZeroF q2 B2 _ b (w.drewN n) hP2 hb1 (by omega) h2
  obtain ⟨na, hna⟩ : ∃ n, n = a.length := ⟨_, rfl⟩
  obtain ⟨nb, hnb⟩ : ∃ n, n = b.length := ⟨_, rfl⟩
  obtain ⟨d, hd⟩ : ∃ d, d = a.length - b.length := ⟨_, rfl⟩
  have HX1 := hid (show (addSL b a).length = na by rw [addSL_len (by omega)]; omega)
  have HXT := hid (show (addSL b a).take d = a.take d by rw [hd]; exact addSL_take (by omega))
  have HXI := hid (addSL_in h (show b.length ≤ a.length by omega) hB hA)
  have HXH := hid (show ∀ i, d ≤ i → i < na → (addSL b a).getD i 0 = b.getD (i - d) 0 ^^^ a.getD i 0 from fun i h1 h3 => by rw [hd] at h1 ⊢; exact addSL_high (by omega) i h1 (by omega))
  have hda := getD_lt h hA
  have hdb := getD_lt h hB
  generalize addSL b a = X at *
  have hdl : d = na - nb := by omega
  simp only [← hna, ← hnb] at c1 e1 hca hcb ha1 hb1 ha hb hcapa hcapb hRa hRb hle
  have HDL := hid hdl
  have hdd : nb + d = na := by omega
  have HLT := hid (show (a.take d).length = d by rw [List.length_take]; omega)
  have HD := hid hdd
  have HNL := hid (show a.length = na by omega)
  have hdle : d ≤ na := by omega
  have hmk := fun W => run_make (P := Try.prog) W 30 3 i0 (.int .i64 0) Try.underlying30 hi hz0 .i64 .i64 na na (by omega) (by omega) (by rw [hz2]; omega) (by omega)
  simp only [hz1] at hmk
  have hdi : (na : Int) - (nb : Int) = (d : Int) := by omega
  have HDI := hid hdi
  have hi3 := info3
  have hin3 : (Try.prog.info? 3).map (·.size) = some 1 := by rw [hi]; simp [hz1]
  have hdc : (d : Int) ≤ (ca : Int) := by omega
  have HCA := hid hca
  have HCB := hid hcb
  have HDA := hid hda
  have HDB := hid hdb
  have ao := fun x y hx hy W => addOr x y hx hy W
  have AO := hid ao
  have HRL := hid hRa
  have i1 : (0 : Int) ≤ (na : Int) - (nb : Int) := by omega
  have i2 : (na : Int) - (nb : Int) ≤ (ca : Int) := by omega
  have i3 : ((na : Int) - (nb : Int)).toNat = d := by omega
  have hgt : (nb : Int) < (na : Int) := by omega
  clear hP1 hP2 h0 h2 hA hB hna hnb hd hdl hdd hca hcb hda hdb hdi hRa hRb hi hz0 hz1 hz2 ao hi3
  have hneq := neqF g
  unfold fieldPtr at *
  go_enter Try.func71, Try.ntmps71
  go_wp2_with fail
  go_quiet (fail)
  clear hneq
  go_wp2_with fail
  refine (z' _).mono ?_
  rintro e w1 ⟨rfl, rfl⟩
  clear z'
  go_wp2_with fail
  refine (z2 _).mono ?_
  rintro e w1 ⟨rfl, rfl⟩
  clear z2
  generalize hwd : w.drewN _ = wd at *
  have b0 : Below w.heap.size w wd := by rw [← hwd]; exact below_drewN (Below.refl _ _) _
  have hs0 : wd.heap.size = w.heap.size := by rw [← hwd]; rfl
  have C0 := (b0.cell (p := ⟨q1, 0, none⟩) l1).trans c0
  have C1 := (b0.cell (p := ⟨q1, 1, none⟩) l1).trans c1
  have D1 := (b0.cell (p := ⟨q2, 1, none⟩) l2).trans e1
  have HS0 := hid hs0
  have C00' := hid c0
  have HB0 := hid b0
  clear hwd c0 c1 e0 e1 b0 hs0
  have HXS := hid (show splice (List.replicate na (Value.int .i64 0)) 0 (ints (a.take d)) = ints (X.take d ++ List.replicate (na - d) 0) by rw [HXT.out]; exact splice_start na d _ hdle HLT.out)
  have A1 := Arr.made wd 3 (.int .i64 0) na
  have RL : Rd (wd.alloc (.cells (madeCells #[.int .i64 0] na) 3)) (some ⟨ba, oa, none⟩) d (ints (a.take d)) := by
    have := ((HRL.out.below HB0.out).alloc (.cells (madeCells #[.int .i64 0] na) 3)).take d hdle
    rwa [ints, ← List.map_take] at this
  have RN := hid (rd_news RL)
  have BB : Below wd.heap.size wd (wd.alloc (.cells (madeCells #[.int .i64 0] na) 3)) := (Below.refl _ _).alloc (Nat.le_refl _) _
  have HA1 := hid A1
  have HBB := hid BB
  clear A1 RL BB
  go_wp2_with (refine wpList_copy_splice rfl (.tmp 50) (.tmp 53) 30 30 rfl 3 Try.underlying30 hin3 (some ⟨wd.heap.size, 0, none⟩) (some ⟨ba, oa, none⟩) na na d ca rfl rfl wd.heap.size 0 (List.replicate na (.int .i64 0)) 3 HA1.out (ints (a.take d)) (by rw [ints_length, HLT.out]; exact (Nat.min_eq_left hdle).symm) (fun _ => ⟨rfl, _, rfl, RN.out⟩) (by rw [ints_length, HLT.out, List.length_replicate]; omega) (ints_one _) wd.heap.size wd HBB.out (Nat.le_refl _) ?_)
  intro w2 hw2 hB2
  have A2 : Arr w2 wd.heap.size 3 (ints (X.take d ++ List.replicate (na - d) 0)) := by rw [← HXS.out]; exact hw2.out
  have k0 := (hB2.cell (p := ⟨q1, 0, none⟩) (by rw [HS0.out]; exact l1)).trans C0
  clear RN HA1 HBB hw2 HXS
  have z0 : (d : Int) = (na : Int) - (nb : Int) := HDI.out.symm
  have Z0 := hid z0
  clear z0 C0 C1 D1
  go_wp2_with fail
  go_loopw [10] (fun i wr => ∃ k : Nat, d ≤ k ∧ k ≤ na ∧ i = .int .i64 k ∧ Arr wr wd.heap.size 3 (ints (X.take k ++ List.replicate (na - k) 0)) ∧ Below wd.heap.size wd wr) (fun i _ => na - (intOf i).toNat)
  case atStart => exact ⟨d, by omega, hdle, by rw [Z0.out], A2, hB2⟩
  case round =>
    clear A2 hB2 k0
    obtain ⟨k, hk1, hk, rfl, hR, hB⟩ := hrel
    by_cases hlt : k < na
    · have hlt' : (k : Int) < (na : Int) := by omega
      have j0 := Z0.out
      have j1 : (0 : Int) ≤ (k : Int) - ((na : Int) - (nb : Int)) := by omega
      have j2 : (k : Int) - ((na : Int) - (nb : Int)) < (nb : Int) := by omega
      have j3 : ((k : Int) - ((na : Int) - (nb : Int))).toNat = k - d := by omega
      have j4 : IntKind.i64.wrap ((k : Int) - ((na : Int) - (nb : Int))) = (k : Int) - ((na : Int) - (nb : Int)) := IntWalk.i64_in _ ⟨by omega, by omega⟩
      have hsz := HS0.out
      have ck := (hB.cell (p := ⟨ba, oa + k, none⟩) (by rw [hsz]; exact hla)).trans ((HB0.out.cell (p := ⟨ba, oa + k, none⟩) hla).trans (HCA.out k hlt))
      have ck2 := (hB.cell (p := ⟨bb, ob + (k - d), none⟩) (by rw [hsz]; exact hlb)).trans ((HB0.out.cell (p := ⟨bb, ob + (k - d), none⟩) hlb).trans (HCB.out (k - d) (by omega)))
      have HS := hid (fill_set X na k HX1.out hlt)
      have HG := hid (HXH.out k hk1 hlt)
      obtain ⟨v0, hv0⟩ := hR.has k (by rw [ints_length, List.length_append, List.length_take, List.length_replicate, HX1.out]; omega)
      have fz := hR.frozen k
      have y1 := HDB.out (k - d)
      have y2 := HDA.out k
      have ao := fun W => AO.out (b.getD (k - d) 0) (a.getD k 0) (by omega) (by omega) W
      generalize hs : b.getD (k - d) 0 = y at *
      generalize hs2 : a.getD k 0 = z at *
      have HR := hid hR
      have HB := hid hB
      clear hR hB hsz j0 hs hs2 y1 y2
      go_wp2_with fail
      go_region_with ((go_at_call 32; ((with_reducible refine (ao _).mono ?_); rintro e w5 ⟨rfl, rfl⟩)))
      all_goals (
        go_wp2
        go_roundw
        case rel => exact ⟨k + 1, by omega, by omega, by go_num, by rw [← HS.out, HG.out, ← ints_set]; exact Arr.set HR.out.drew k _, Below.setCell HB.out.drew (Nat.le_refl _) _⟩
        case measure => simp [intOf]; omega)
    · obtain rfl : k = na := by omega
      have e1 : X.take k ++ List.replicate (k - k) 0 = X := by rw [Nat.sub_self, List.take_of_length_le (by rw [HX1.out]; exact Nat.le_refl _)]; simp
      rw [e1] at hR
      have hsz := HS0.out
      have k0 := (hB.cell (p := ⟨q1, 0, none⟩) (by rw [hsz]; exact l1)).trans ((HB0.out.cell (p := ⟨q1, 0, none⟩) l1).trans C00'.out)
      have np := newPoly (some ⟨g, 0, none⟩) (some ⟨wd.heap.size, 0, none⟩) k k X wd.heap.size wr (by have := Rd.of_arr hR; rwa [ints_length, HX1.out] at this) (by omega) (by omega) (Nat.le_refl _) (fun a e => by injection e with e; subst e; exact Nat.le_refl _) hB.size
      have HB := hid (show Below w.heap.size w wr from HB0.out.trans (hB.mono (by rw [hsz]; exact Nat.le_refl _)))
      clear hR hB hsz e1
      go_wp2_with fail
      refine np.mono ?_
      rintro e w2 ⟨q2, rfl, hq2, hP2, hB2⟩
      have HP2 := hid hP2
      clear hP2 np
      have HBT := hid (HB.out.trans (hB2.mono HB.out.size))
      go_wp2
      go_ret2
      exact ⟨q2, _, rfl, HP2.out, HBT.out⟩

set_option maxRecDepth 100000 in
set_option maxHeartbeats 2000000 in
theorem addSub3 (q1 q2 g p m base B1 B2 : Nat) (a b : List Nat) (w : World) (h : IsGF p m) (hP1 : IsPoly w B1 q1 (fieldPtr g) a) (hP2 : IsPoly w B2 q2 (fieldPtr g) b) (ha1 : 1 ≤ a.length) (hb1 : 1 ≤ b.length) (ha : a.length ≤ 100000) (hb : b.length ≤ 100000) (hA : AllIn m a) (hB : AllIn m b) (h0 : a.getD 0 0 ≠ 0) (h2 : b.getD 0 0 ≠ 0) (hle : a.length ≤ b.length) :
    Calls Try.prog 71 #[fieldPtr q1, fieldPtr q2] w (PtrOk (fieldPtr g) (tidy (addSL a b)) w) := by
  obtain ⟨i0, hi, hz0, hz1, hz2⟩ := info_parts info3
  have hN1 : 2 ^ m ≤ 4096 := Nat.pow_le_pow_right (n := 2) (by omega) h.small
  have l1 := hP1.lt
  have l2 := hP2.lt
  obtain ⟨ba, oa, ca, c0, c1, hca, hRa, hcapa, hla⟩ := hP1.coefR ha1
  obtain ⟨bb, ob, cb, e0, e1, hcb, hRb, hcapb, hlb⟩ := hP2.coefR hb1
  have z' : ∀ n, Calls Try.prog 68 #[fieldPtr q1] (w.drewN n) (SameOut (.bool false) (w.drewN n)) := fun n => isZeroF q1 B1 _ a (w.drewN n) hP1 ha1 (by omega) h0
  have z2 : ∀ n, Calls Try.prog 68 #[fieldPtr q2] (w.drewN n) (SameOut (.bool false) (w.drewN n)) := fun n => isZeroF q2 B2 _ b (w.drewN n) hP2 hb1 (by omega) h2
  obtain ⟨na, hna⟩ : ∃ n, n = a.length := ⟨_, rfl⟩
  obtain ⟨nb, hnb⟩ : ∃ n, n = b.length := ⟨_, rfl⟩
  obtain ⟨d, hd⟩ : ∃ d, d = b.length - a.length := ⟨_, rfl⟩
  have HX1 := hid (show (addSL a b).length = nb by rw [addSL_len (by omega)]; omega)
  have HXT := hid (show (addSL a b).take d = b.take d by rw [hd]; exact addSL_take (by omega))
  have HXI := hid (addSL_in h (show a.length ≤ b.length by omega) hA hB)
  have HXH := hid (show ∀ i, d ≤ i → i < nb → (addSL a b).getD i 0 = a.getD (i - d) 0 ^^^ b.getD i 0 from fun i h1 h3 => by rw [hd] at h1 ⊢; exact addSL_high (by omega) i h1 (by omega))
  have hda := getD_lt h hA
  have hdb := getD_lt h hB
  generalize addSL a b = X at *
  have hdl : d = nb - na := by omega
  simp only [← hna, ← hnb] at c1 e1 hca hcb ha1 hb1 ha hb hcapa hcapb hRa hRb hle
  have HDL := hid hdl
  have hdd : na + d = nb := by omega
  have HLT := hid (show (b.take d).length = d by rw [List.length_take]; omega)
  have HD := hid hdd
  have HNL := hid (show b.length = nb by omega)
  have hdle : d ≤ nb := by omega
  have hmk := fun W => run_make (P := Try.prog) W 30 3 i0 (.int .i64 0) Try.underlying30 hi hz0 .i64 .i64 nb nb (by omega) (by omega) (by rw [hz2]; omega) (by omega)
  simp only [hz1] at hmk
  have hdi : (nb : Int) - (na : Int) = (d : Int) := by omega
  have HDI := hid hdi
  have hi3 := info3
  have hin3 : (Try.prog.info? 3).map (·.size) = some 1 := by rw [hi]; simp [hz1]
  have hdc : (d : Int) ≤ (cb : Int) := by omega
  have HCA := hid hca
  have HCB := hid hcb
  have HDA := hid hda
  have HDB := hid hdb
  have ao := fun x y hx hy W => addOr x y hx hy W
  have AO := hid ao
  have HRL := hid hRb
  have i1 : (0 : Int) ≤ (nb : Int) - (na : Int) := by omega
  have i2 : (nb : Int) - (na : Int) ≤ (cb : Int) := by omega
  have i3 : ((nb : Int) - (na : Int)).toNat = d := by omega
  have hgt : ¬ (nb : Int) < (na : Int) := by omega
  clear hP1 hP2 h0 h2 hA hB hna hnb hd hdl hdd hca hcb hda hdb hdi hRa hRb hi hz0 hz1 hz2 ao hi3
  have hneq := neqF g
  unfold fieldPtr at *
  go_enter Try.func71, Try.ntmps71
  go_wp2_with fail
  go_quiet (fail)
  clear hneq
  go_wp2_with fail
  refine (z' _).mono ?_
  rintro e w1 ⟨rfl, rfl⟩
  clear z'
  go_wp2_with fail
  refine (z2 _).mono ?_
  rintro e w1 ⟨rfl, rfl⟩
  clear z2
  generalize hwd : w.drewN _ = wd at *
  have b0 : Below w.heap.size w wd := by rw [← hwd]; exact below_drewN (Below.refl _ _) _
  have hs0 : wd.heap.size = w.heap.size := by rw [← hwd]; rfl
  have C0 := (b0.cell (p := ⟨q1, 0, none⟩) l1).trans c0
  have C1 := (b0.cell (p := ⟨q1, 1, none⟩) l1).trans c1
  have D1 := (b0.cell (p := ⟨q2, 1, none⟩) l2).trans e1
  have HS0 := hid hs0
  have C00' := hid c0
  have HB0 := hid b0
  clear hwd c0 c1 e0 e1 b0 hs0
  have HXS := hid (show splice (List.replicate nb (Value.int .i64 0)) 0 (ints (b.take d)) = ints (X.take d ++ List.replicate (nb - d) 0) by rw [HXT.out]; exact splice_start nb d _ hdle HLT.out)
  have A1 := Arr.made wd 3 (.int .i64 0) nb
  have RL : Rd (wd.alloc (.cells (madeCells #[.int .i64 0] nb) 3)) (some ⟨bb, ob, none⟩) d (ints (b.take d)) := by
    have := ((HRL.out.below HB0.out).alloc (.cells (madeCells #[.int .i64 0] nb) 3)).take d hdle
    rwa [ints, ← List.map_take] at this
  have RN := hid (rd_news RL)
  have BB : Below wd.heap.size wd (wd.alloc (.cells (madeCells #[.int .i64 0] nb) 3)) := (Below.refl _ _).alloc (Nat.le_refl _) _
  have HA1 := hid A1
  have HBB := hid BB
  clear A1 RL BB
  go_wp2_with (refine wpList_copy_splice rfl (.tmp 50) (.tmp 53) 30 30 rfl 3 Try.underlying30 hin3 (some ⟨wd.heap.size, 0, none⟩) (some ⟨bb, ob, none⟩) nb nb d cb rfl rfl wd.heap.size 0 (List.replicate nb (.int .i64 0)) 3 HA1.out (ints (b.take d)) (by rw [ints_length, HLT.out]; exact (Nat.min_eq_left hdle).symm) (fun _ => ⟨rfl, _, rfl, RN.out⟩) (by rw [ints_length, HLT.out, List.length_replicate]; omega) (ints_one _) wd.heap.size wd HBB.out (Nat.le_refl _) ?_)
  intro w2 hw2 hB2
  have A2 : Arr w2 wd.heap.size 3 (ints (X.take d ++ List.replicate (nb - d) 0)) := by rw [← HXS.out]; exact hw2.out
  have k0 := (hB2.cell (p := ⟨q1, 0, none⟩) (by rw [HS0.out]; exact l1)).trans C0
  clear RN HA1 HBB hw2 HXS
  have z0 : (d : Int) = (nb : Int) - (na : Int) := HDI.out.symm
  have Z0 := hid z0
  clear z0 C0 C1 D1
  go_wp2_with fail
  go_loopw [10] (fun i wr => ∃ k : Nat, d ≤ k ∧ k ≤ nb ∧ i = .int .i64 k ∧ Arr wr wd.heap.size 3 (ints (X.take k ++ List.replicate (nb - k) 0)) ∧ Below wd.heap.size wd wr) (fun i _ => nb - (intOf i).toNat)
  case atStart => exact ⟨d, by omega, hdle, by rw [Z0.out], A2, hB2⟩
  case round =>
    clear A2 hB2 k0
    obtain ⟨k, hk1, hk, rfl, hR, hB⟩ := hrel
    by_cases hlt : k < nb
    · have hlt' : (k : Int) < (nb : Int) := by omega
      have j0 := Z0.out
      have j1 : (0 : Int) ≤ (k : Int) - ((nb : Int) - (na : Int)) := by omega
      have j2 : (k : Int) - ((nb : Int) - (na : Int)) < (na : Int) := by omega
      have j3 : ((k : Int) - ((nb : Int) - (na : Int))).toNat = k - d := by omega
      have j4 : IntKind.i64.wrap ((k : Int) - ((nb : Int) - (na : Int))) = (k : Int) - ((nb : Int) - (na : Int)) := IntWalk.i64_in _ ⟨by omega, by omega⟩
      have hsz := HS0.out
      have ck := (hB.cell (p := ⟨bb, ob + k, none⟩) (by rw [hsz]; exact hlb)).trans ((HB0.out.cell (p := ⟨bb, ob + k, none⟩) hlb).trans (HCB.out k hlt))
      have ck2 := (hB.cell (p := ⟨ba, oa + (k - d), none⟩) (by rw [hsz]; exact hla)).trans ((HB0.out.cell (p := ⟨ba, oa + (k - d), none⟩) hla).trans (HCA.out (k - d) (by omega)))
      have HS := hid (fill_set X nb k HX1.out hlt)
      have HG := hid (HXH.out k hk1 hlt)
      obtain ⟨v0, hv0⟩ := hR.has k (by rw [ints_length, List.length_append, List.length_take, List.length_replicate, HX1.out]; omega)
      have fz := hR.frozen k
      have y1 := HDA.out (k - d)
      have y2 := HDB.out k
      have ao := fun W => AO.out (a.getD (k - d) 0) (b.getD k 0) (by omega) (by omega) W
      generalize hs : a.getD (k - d) 0 = y at *
      generalize hs2 : b.getD k 0 = z at *
      have HR := hid hR
      have HB := hid hB
      clear hR hB hsz j0 hs hs2 y1 y2
      go_wp2_with fail
      go_region_with ((go_at_call 32; ((with_reducible refine (ao _).mono ?_); rintro e w5 ⟨rfl, rfl⟩)))
      all_goals (
        go_wp2
        go_roundw
        case rel => exact ⟨k + 1, by omega, by omega, by go_num, by rw [← HS.out, HG.out, ← ints_set]; exact Arr.set HR.out.drew k _, Below.setCell HB.out.drew (Nat.le_refl _) _⟩
        case measure => simp [intOf]; omega)
    · obtain rfl : k = nb := by omega
      have e1 : X.take k ++ List.replicate (k - k) 0 = X := by rw [Nat.sub_self, List.take_of_length_le (by rw [HX1.out]; exact Nat.le_refl _)]; simp
      rw [e1] at hR
      have hsz := HS0.out
      have k0 := (hB.cell (p := ⟨q1, 0, none⟩) (by rw [hsz]; exact l1)).trans ((HB0.out.cell (p := ⟨q1, 0, none⟩) l1).trans C00'.out)
      have np := newPoly (some ⟨g, 0, none⟩) (some ⟨wd.heap.size, 0, none⟩) k k X wd.heap.size wr (by have := Rd.of_arr hR; rwa [ints_length, HX1.out] at this) (by omega) (by omega) (Nat.le_refl _) (fun a e => by injection e with e; subst e; exact Nat.le_refl _) hB.size
      have HB := hid (show Below w.heap.size w wr from HB0.out.trans (hB.mono (by rw [hsz]; exact Nat.le_refl _)))
      clear hR hB hsz e1
      go_wp2_with fail
      refine np.mono ?_
      rintro e w2 ⟨q2, rfl, hq2, hP2, hB2⟩
      have HP2 := hid hP2
      clear hP2 np
      have HBT := hid (HB.out.trans (hB2.mono HB.out.size))
      go_wp2
      go_ret2
      exact ⟨q2, _, rfl, HP2.out, HBT.out⟩

/-- The sum of two polynomials of one field, none with zeros ahead. -/
theorem addSub (q1 q2 g p m base B1 B2 : Nat) (a b : List Nat) (w : World) (h : IsGF p m) (hP1 : IsPoly w B1 q1 (fieldPtr g) a) (hP2 : IsPoly w B2 q2 (fieldPtr g) b) (ha1 : 1 ≤ a.length) (hb1 : 1 ≤ b.length) (ha : a.length ≤ 100000) (hb : b.length ≤ 100000) (hA : AllIn m a) (hB : AllIn m b) (hTa : tidy a = a) (hTb : tidy b = b) :
    Calls Try.prog 71 #[fieldPtr q1, fieldPtr q2] w (PtrOk (fieldPtr g) (tidy (addL a b)) w) := by
  by_cases h0 : a.getD 0 0 = 0
  · rw [tidy_zero hTa ha1 h0, addL_zero b hb1, hTb]
    exact addSub0 q1 q2 g B1 B2 a b w hP1 hP2 ha1 hb1 ha hb h0
  by_cases h2 : b.getD 0 0 = 0
  · rw [tidy_zero hTb hb1 h2, addL_comm, addL_zero a ha1, hTa]
    exact addSub1 q1 q2 g B1 B2 a b w hP1 hP2 ha1 hb1 ha hb h0 h2
  unfold addL
  split
  · exact addSub2 q1 q2 g p m base B1 B2 a b w h hP1 hP2 ha1 hb1 ha hb hA hB h0 h2 (by assumption)
  · exact addSub3 q1 q2 g p m base B1 B2 a b w h hP1 hP2 ha1 hb1 ha hb hA hB h0 h2 (by omega)
end Go.Proofs.Ytpkmknbmjlnkgaa
