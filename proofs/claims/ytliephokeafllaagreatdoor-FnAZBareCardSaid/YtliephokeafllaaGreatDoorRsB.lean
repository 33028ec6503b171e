/- The reference product of polynomials (turned from the seat of Reed-Solomon). -/
import Derived.Test.YtliephokeafllaaGreatDoorRsA
import Derived.Deep.DrawnRows
import Derived.Deep.RegionHeld3
namespace Go.Proofs.YtliephokeafllaaGreatDoor.Rs
/- The walks of a polynomial's value, by the package and by the reference. -/
section
open Go.RowKit
set_option linter.unusedVariables false

end
/- FnRSScales: like lists, a polynomial's list, shifted lists. -/
section
open Go.RowKit
set_option linter.unusedVariables false

/-- A polynomial's coefficients as a new list. -/
def ListOk (l : List Nat) (w : World) (e : Ending) (w' : World) : Prop :=
  ∃ A c, e = .returned (.tuple #[.slice A l.length c, .bool true]) ∧ l.length ≤ c ∧ Rd w' A l.length (ints l) ∧ Below w.heap.size w w'

/-- A list with zeros behind it. -/
def shiftl (l : List Nat) (d : Nat) : List Nat := l ++ List.replicate d 0
end
/- FnRSScales: a polynomial times an element. -/
section
open Go.RowKit
set_option linter.unusedVariables false

def scaleBy (p m c : Nat) (l : List Nat) : List Nat := l.map fun x => gm p m x c

theorem fill_set (xs : List Nat) (n k : Nat) (hn : xs.length = n) (hk : k < n) : (xs.take k ++ List.replicate (n - k) 0).set k (xs.getD k 0) = xs.take (k + 1) ++ List.replicate (n - (k + 1)) 0 := by
  have h1 : (xs.take k).length = k := by rw [List.length_take]; omega
  rw [List.set_append_right _ _ (by omega), h1, Nat.sub_self, show n - k = (n - (k + 1)) + 1 from by omega, List.replicate_succ, List.set_cons_zero, List.take_succ_eq_append_getElem (by omega), List.append_assoc]
  simp [List.getD, List.getElem?_eq_getElem (show k < xs.length by omega)]
theorem ints_set (l : List Nat) (k x : Nat) : (ints l).set k (.int .i64 (x : Nat)) = ints (l.set k x) := by simp [ints, List.map_set]

end
/- FnRSScales: a polynomial times an element, whichever. -/
section
open Go.RowKit
set_option linter.unusedVariables false

theorem tidy_reps : ∀ n, tidy (List.replicate (n + 1) 0) = [0]
  | 0 => rfl
  | n + 1 => by
    show tidy (0 :: 0 :: List.replicate n 0) = [0]
    simp only [tidy]
    exact tidy_reps n
theorem scale_zero (p m : Nat) (l : List Nat) (h1 : 1 ≤ l.length) : tidy (scaleBy p m 0 l) = [0] := by
  have e : scaleBy p m 0 l = List.replicate ((l.length - 1) + 1) 0 := by
    rw [show l.length - 1 + 1 = l.length from by omega]
    unfold scaleBy
    apply List.ext_getElem
    · simp
    · intro i a b
      simp [gm_zero]
  rw [e, tidy_reps]
theorem scale_one (p m : Nat) (h : IsGF p m) (l : List Nat) : scaleBy p m 1 l = l := by
  unfold scaleBy
  apply List.ext_getElem
  · simp
  · intro i a b
    simp [gm_one h]

/-- The list of c with d zeros behind it. -/
def monoL (c d : Nat) : List Nat := c :: List.replicate d 0

end
/- FnRSScales: a polynomial times a power of the unknown. -/
section
open Go.RowKit
set_option linter.unusedVariables false

theorem tidy_app (z : List Nat) : ∀ l : List Nat, 1 ≤ l.length → tidy (tidy l ++ z) = tidy (l ++ z)
  | [], h => absurd h (by simp)
  | [a], _ => rfl
  | 0 :: b :: l, _ => by
    show tidy (tidy (b :: l) ++ z) = tidy (b :: (l ++ z))
    exact tidy_app z (b :: l) (by simp)
  | (a + 1) :: b :: l, _ => rfl
theorem shift_zero (p m d : Nat) (l : List Nat) (h1 : 1 ≤ l.length) : tidy (shiftl (scaleBy p m 0 l) d) = [0] := by
  have h2 : 1 ≤ (scaleBy p m 0 l).length := by simp [scaleBy]; omega
  unfold shiftl
  rw [← tidy_app _ _ h2, scale_zero p m l h1]
  exact tidy_reps d

theorem fill_set2 (xs : List Nat) (N n k : Nat) (hn : xs.length = n) (hk : k < n) (hN : n ≤ N) : (xs.take k ++ List.replicate (N - k) 0).set k (xs.getD k 0) = xs.take (k + 1) ++ List.replicate (N - (k + 1)) 0 := by
  have h1 : (xs.take k).length = k := by rw [List.length_take]; omega
  rw [List.set_append_right _ _ (by omega), h1, Nat.sub_self, show N - k = (N - (k + 1)) + 1 from by omega, List.replicate_succ, List.set_cons_zero, List.take_succ_eq_append_getElem (by omega), List.append_assoc]
  simp [List.getD, List.getElem?_eq_getElem (show k < xs.length by omega)]

end
/- FnRSScales: powers below 0 are refused; the package's three doors. -/
section
open Go.RowKit
set_option linter.unusedVariables false

/-- An error is handed back. -/
def ErrOut (w : World) (e : Ending) (w' : World) : Prop := ∃ a, e = .returned (.iface 102 (.pointer (some a))) ∧ Below w.heap.size w w'

/-- Nothing and an error are handed back. -/
def ErrOut2 (w : World) (e : Ending) (w' : World) : Prop := ∃ a, e = .returned (.tuple #[.pointer none, .iface 102 (.pointer (some a))]) ∧ Below w.heap.size w w'

end
/- FnRSScales: the walks of the package's doors for a polynomial times an element or a power. -/
section
open Go.RowKit
set_option linter.unusedVariables false

theorem scale_len (p m c : Nat) (l : List Nat) : (scaleBy p m c l).length = l.length := by simp [scaleBy]
theorem shiftl_len (l : List Nat) (d : Nat) : (shiftl l d).length = l.length + d := by simp [shiftl]
theorem tidy_len_le {l : List Nat} {k : Nat} (h1 : 1 ≤ l.length) (h : l.length ≤ k) : (tidy l).length ≤ k := Nat.le_trans ((tidy_cases l).2.2.2 h1) h

/-- No list, and false. -/
def NoList (w : World) (e : Ending) (w' : World) : Prop := e = .returned (.tuple #[.slice none 0 0, .bool false]) ∧ Below w.heap.size w w'

set_option maxHeartbeats 1000000 in
theorem rsShifted (A : Option Addr) (n c d : Nat) (l : List Nat) (w : World) (hR : Rd w A n (ints l)) (hn : 1 ≤ n) (hn2 : n ≤ 10000) (hd : d ≤ 10000) :
    Calls Tryz.prog 50 #[.slice A n c, .int .i64 d] w (ListOut (tidy (shiftl l d)) w) := by
  obtain ⟨i0, hi, hz0, hz1, hz2⟩ := info_parts info3
  have hl : l.length = n := by have := hR.1; simpa [ints] using this
  have HL := hid hl
  clear hl
  go_enter Tryz.func50, Tryz.ntmps50
  go_wp2_with (at_builtin; refine wpList_app _ rfl _ _ 25 rfl w.heap.size 3 i0 _ 8 Tryz.underlying25 hi hz0 hz1 hz2 rfl (.slice (some ⟨w.heap.size, 0, none⟩) 0 0) [] rfl (Own.lit0 _ _ (Nat.le_refl _)) A n c (ints l) rfl (hR.alloc _) (ints_one _) (by simp [maxLen]; omega) (by simp; omega) (by simp) ?_)
  intro v1 w2 hO hg _
  have hB : Below w.heap.size w w2 := ((Below.refl _ w).alloc (Nat.le_refl _) (.cells #[] 3)).grown hg (by simp) (fun j hj => by simp [Value.ownBlock] at hj; omega)
  have HO := hid hO
  have hlen : ([] ++ ints l).length = n := by simp [ints_length, HL.out]
  clear hO hg
  go_wp2_with (refine wpList_appz _ rfl _ _ 25 3 rfl w.heap.size 3 i0 _ .i64 8 Tryz.underlying25 Tryz.underlying3 hi hz0 hz1 hz2 rfl rfl v1 ([] ++ ints l) rfl HO.out d rfl (by rw [hlen]; omega) (by rw [hlen]; omega) hB.size ?_)
  intro v2 w3 hO2 hg2 _
  have hB2 := below_app hB HO.out hg2 (Nat.le_refl _) hB.size
  have e2 : ints l ++ List.replicate d (Value.int .i64 0) = ints (shiftl l d) := by simp [ints, shiftl]
  rw [e2] at hO2
  obtain ⟨A', c', hv, hR', hc'⟩ := hO2.form
  have hl2 : (ints (shiftl l d)).length = n + d := by rw [ints_length, shiftl_len, HL.out]
  rw [hl2] at hv hR' hc'
  subst hv
  have HRR := hid hR'
  clear hO2 hg2 hl2 e2 hR' HO hB hR
  go_wp2_with fail
  refine (rsTidy A' (n + d) c' (shiftl l d) w3 HRR.out (by omega) (by omega) hc').mono ?_
  rintro e w4 ⟨A2, c2, rfl, hc2, hR2, hA2, hB3⟩
  go_wp2_with fail
  go_ret
  exact ⟨A2, c2, rfl, hc2, hR2, fun a e => Nat.le_trans hB2.size (hA2 a e), hB2.trans (hB3.mono hB2.size)⟩
end
/- The reference's product of polynomials. -/
section
open Go.RowKit
set_option linter.unusedVariables false

/-- A row with x times b added from place i on, the first k of b. -/
def rowTo (p m x : Nat) (b : List Nat) (i : Nat) (out : List Nat) : Nat → List Nat
  | 0 => out
  | k + 1 => (rowTo p m x b i out k).set (i + k) ((rowTo p m x b i out k).getD (i + k) 0 ^^^ gm p m x (b.getD k 0))
/-- The first i rows of a product. -/
def prodTo (p m : Nat) (a b : List Nat) : Nat → List Nat
  | 0 => List.replicate (a.length + b.length - 1) 0
  | i + 1 => rowTo p m (a.getD i 0) b i (prodTo p m a b i) b.length
def prodL (p m : Nat) (a b : List Nat) : List Nat := prodTo p m a b a.length

section
variable {p m : Nat}
theorem rowTo_len (x : Nat) (b : List Nat) (i : Nat) (out : List Nat) : ∀ k, (rowTo p m x b i out k).length = out.length
  | 0 => rfl
  | k + 1 => by simp [rowTo, rowTo_len x b i out k]
theorem prodTo_len (a b : List Nat) : ∀ i, (prodTo p m a b i).length = a.length + b.length - 1
  | 0 => by simp [prodTo]
  | i + 1 => by rw [prodTo, rowTo_len, prodTo_len a b i]
theorem rowTo_in (h : IsGF p m) {x : Nat} (hx : x < 2 ^ m) {b : List Nat} (hb : AllIn m b) (i : Nat) {out : List Nat} (ho : AllIn m out) : ∀ k, AllIn m (rowTo p m x b i out k)
  | 0 => ho
  | k + 1 => by
    intro y hy
    have ih := rowTo_in h hx hb i ho k
    rcases List.mem_or_eq_of_mem_set hy with h1 | h1
    · exact ih y h1
    · subst h1
      exact Nat.xor_lt_two_pow (getD_lt h ih _) (gm_lt h hx _)
theorem prodTo_in (h : IsGF p m) {a b : List Nat} (ha : AllIn m a) (hb : AllIn m b) : ∀ i, AllIn m (prodTo p m a b i)
  | 0 => fun x hx => by rw [(List.mem_replicate.1 hx).2]; exact Nat.two_pow_pos m
  | i + 1 => rowTo_in h (getD_lt h ha i) hb i (prodTo_in h ha hb i) b.length
end

section
variable {g b c d : Nat} {o q r : Nat} {c0 c1 c2 v u z : Value} {w w1 : World}
theorem keep6_below (h : w.cell? ⟨g, 0, none⟩ = some c0 ∧ w.cell? ⟨g, 1, none⟩ = some c1 ∧ w.cell? ⟨g, 2, none⟩ = some c2 ∧ w.cell? ⟨b, o, none⟩ = some v ∧ w.cell? ⟨c, q, none⟩ = some u ∧ w.cell? ⟨d, r, none⟩ = some z ∧ w.frozen? ⟨d, r, none⟩ = false ∧ g < w.heap.size ∧ b < w.heap.size ∧ c < w.heap.size ∧ d < w.heap.size) (hb : Below w.heap.size w w1) :
    w1.cell? ⟨g, 0, none⟩ = some c0 ∧ w1.cell? ⟨g, 1, none⟩ = some c1 ∧ w1.cell? ⟨g, 2, none⟩ = some c2 ∧ w1.cell? ⟨b, o, none⟩ = some v ∧ w1.cell? ⟨c, q, none⟩ = some u ∧ w1.cell? ⟨d, r, none⟩ = some z ∧ w1.frozen? ⟨d, r, none⟩ = false ∧ g < w1.heap.size ∧ b < w1.heap.size ∧ c < w1.heap.size ∧ d < w1.heap.size := by
  obtain ⟨h0, h1, h2, h3, h4, h5, h6, h7, h8, h9, h10⟩ := h
  exact ⟨(hb.cell (p := ⟨g, 0, none⟩) h7).trans h0, (hb.cell (p := ⟨g, 1, none⟩) h7).trans h1, (hb.cell (p := ⟨g, 2, none⟩) h7).trans h2, (hb.cell (p := ⟨b, o, none⟩) h8).trans h3, (hb.cell (p := ⟨c, q, none⟩) h9).trans h4, (hb.cell (p := ⟨d, r, none⟩) h10).trans h5, (hb.frozen (p := ⟨d, r, none⟩) h10).trans h6, Nat.lt_of_lt_of_le h7 hb.size, Nat.lt_of_lt_of_le h8 hb.size, Nat.lt_of_lt_of_le h9 hb.size, Nat.lt_of_lt_of_le h10 hb.size⟩
end

attribute [local go_sem ↓] Go.wp_at_zero Go.wp_at_succ
set_option maxRecDepth 100000 in
set_option maxHeartbeats 4000000 in
theorem rsProduct (p m N base : Nat) (A1 A2 : Option Addr) (c1 c2 : Nat) (a b : List Nat) (w : World) (h : IsGF p m) (hN : Hid (N = 2 ^ m)) (hR1 : Rd w A1 a.length (ints a)) (hR2 : Rd w A2 b.length (ints b))
    (ha1 : 1 ≤ a.length) (hb1 : 1 ≤ b.length) (ha : a.length ≤ 10000) (hb : b.length ≤ 10000) (hA : AllIn m a) (hB : AllIn m b) :
    Calls Tryz.prog 81 #[fieldVal p N base, .slice A1 a.length c1, .slice A2 b.length c2] w (ListOut (tidy (prodL p m a b)) w) := by
  obtain ⟨i0, hi, hz0, hz1, hz2⟩ := info_parts info3
  have hN1 : N ≤ 4096 := by rw [hN.out]; exact Nat.pow_le_pow_right (n := 2) (by omega) h.small
  have e0 := hid (show List.replicate (a.length + b.length - 1) (Value.int .i64 0) = ints (prodTo p m a b 0) by simp [ints, prodTo])
  have HPL := hid (show prodTo p m a b a.length = prodL p m a b from rfl)
  have hpl := fun i => prodTo_len (p := p) (m := m) a b i
  have hpin := fun i => prodTo_in h hA hB i
  have hstep := fun i => hid (show prodTo p m a b (i + 1) = rowTo p m (a.getD i 0) b i (prodTo p m a b i) b.length from rfl)
  have hga := getD_lt h hA
  have hgb := getD_lt h hB
  have H := hid h
  have HB := hid hB
  obtain ⟨na, hna⟩ : ∃ n, n = a.length := ⟨_, rfl⟩
  obtain ⟨nb, hnb⟩ : ∃ n, n = b.length := ⟨_, rfl⟩
  simp only [← hna, ← hnb] at *
  have HNA := hid hna
  have HNB := hid hnb
  have HPLEN := hid hpl
  have HPIN := hid hpin
  have HSTEP := hid hstep
  have HGA := hid hga
  have HGB := hid hgb
  clear hna hnb hpl hpin hstep hga hgb h hA hB
  have hmk := fun W => run_make (P := Tryz.prog) W 25 3 i0 (.int .i64 0) Tryz.underlying25 hi hz0 .i64 .i64 ((na : Int) + (nb : Int) - 1) ((na : Int) + (nb : Int) - 1) (by omega) (by omega) (by rw [hz2]; omega) (by omega)
  obtain ⟨nn, hnq⟩ : ∃ nn, nn = na + nb - 1 := ⟨_, rfl⟩
  have hnn : ((na : Int) + (nb : Int) - 1).toNat = nn := by omega
  simp only [hz1, hnn] at hmk
  simp only [← hnq] at HPLEN e0
  have hnb1 : nn ≤ 20000 := by omega
  have hnb2 : na + nb ≤ nn + 1 := by omega
  have HNN := hid hnn
  clear hnn hnq
  have A0 := (Arr.of_new w 72 #[.int .i64 p, .int .i64 N, .int .i64 base]).alloc (.cells (madeCells #[.int .i64 0] nn) 3)
  have A3 := Arr.made (w.alloc (.cells #[.int .i64 p, .int .i64 N, .int .i64 base] 72)) 3 (.int .i64 0) nn
  rw [e0.out] at A3
  have B0 : Below w.heap.size w ((w.alloc (.cells #[.int .i64 p, .int .i64 N, .int .i64 base] 72)).alloc (.cells (madeCells #[.int .i64 0] nn) 3)) := ((Below.refl _ _).alloc (Nat.le_refl _) _).alloc (by simp) _
  unfold fieldVal
  go_enter Tryz.func81, Tryz.ntmps81
  go_wp2
  generalize (w.alloc (.cells #[.int .i64 p, .int .i64 N, .int .i64 base] 72)).alloc (.cells (madeCells #[.int .i64 0] nn) 3) = w1 at *
  have hsz : (w.alloc (.cells #[.int .i64 p, .int .i64 N, .int .i64 base] 72)).heap.size = w.heap.size + 1 := by simp
  rw [hsz] at A3
  clear hmk hsz
  go_loopw [8] (fun i wr => ∃ k : Nat, k ≤ na ∧ i = .int .i64 k ∧ Arr wr w.heap.size 72 [.int .i64 p, .int .i64 N, .int .i64 base] ∧ Arr wr (w.heap.size + 1) 3 (ints (prodTo p m a b k)) ∧ Below w.heap.size w wr) (fun i _ => na - (intOf i).toNat)
  case atStart => exact ⟨0, by omega, rfl, A0, A3, B0⟩
  case round =>
    obtain ⟨i, hik, rfl, hF, hO, hB⟩ := hrel
    obtain ⟨wo, rfl⟩ : ∃ wo : World, wo = wr := ⟨_, rfl⟩
    by_cases hlt : i < na
    · have hlt' : (i : Int) < (na : Int) := by omega
      have hx := HGA.out i
      rw [← hN.out] at hx
      have HST := HSTEP.out i
      have HPI := hid (HPIN.out i)
      have HPL2 := hid (HPLEN.out i)
      generalize hP0 : prodTo p m a b i = P0 at *
      have HP0 := hid hP0
      generalize hai : a.getD i 0 = x at *
      have HAI := hid hai
      clear hP0 hai A0 A3 B0
      go_wp2
      go_loopw [9] (fun j wr => ∃ k : Nat, k ≤ nb ∧ j = .int .i64 k ∧ Arr wr w.heap.size 72 [.int .i64 p, .int .i64 N, .int .i64 base] ∧ Arr wr (w.heap.size + 1) 3 (ints (rowTo p m x b i P0 k)) ∧ Below w.heap.size w wr) (fun j _ => nb - (intOf j).toNat)
      case atStart => exact ⟨0, by omega, rfl, hF, hO, hB⟩
      case round =>
        clear hF hO hB
        obtain ⟨k, hk, rfl, hF, hO, hB⟩ := hrel
        by_cases hlt2 : k < nb
        · have hlt2' : (k : Int) < (nb : Int) := by omega
          obtain ⟨b1, o1, rfl, hb1, k1⟩ := rd_int (hR1.below hB) i hlt
          obtain ⟨b2, o2, rfl, hb2, k2⟩ := rd_int (hR2.below hB) k hlt2
          have hy := HGB.out k
          rw [← hN.out] at hy
          have hrl := getD_lt H.out (rowTo_in H.out (x := x) (by rw [← hN.out]; exact hx) HB.out i HPI.out k) (i + k)
          rw [← hN.out] at hrl
          have hlen := hid (show (rowTo p m x b i P0 k).length = nn by rw [rowTo_len]; exact HPL2.out)
          have HRS := hid (show rowTo p m x b i P0 (k + 1) = (rowTo p m x b i P0 k).set (i + k) ((rowTo p m x b i P0 k).getD (i + k) 0 ^^^ gm p m x (b.getD k 0)) from rfl)
          have ct := fun W => rsTimes p m N base x (b.getD k 0) W H.out hN hx hy
          have hgl := gm_lt H.out (a := x) (by rw [← hN.out]; exact hx) (b.getD k 0)
          rw [← hN.out] at hgl
          have hs1 : IntKind.i64.wrap ((i : Int) + (k : Int)) = (i : Int) + (k : Int) := IntWalk.i64_in _ ⟨by omega, by omega⟩
          have hs2 : (0 : Int) ≤ (i : Int) + (k : Int) := by omega
          have hs3 : (i : Int) + (k : Int) < (nn : Int) := by omega
          have hs4 : ((i : Int) + (k : Int)).toNat = i + k := by omega
          have kO := hO.cell (i + k) (by rw [ints_length, hlen.out]; omega)
          have kO2 : wr.cell? ⟨w.heap.size + 1, i + k, none⟩ = some (.int .i64 ((rowTo p m x b i P0 k).getD (i + k) 0 : Nat)) := by
            rw [kO]; simp [ints, List.getD, List.getElem?_eq_getElem (show i + k < (rowTo p m x b i P0 k).length by rw [hlen.out]; omega)]
          have fz := hO.frozen (i + k)
          have hOl := hO.lt
          have HOO := hid hO
          have HFF := hid hF
          have HBB := hid hB
          have d0 := hF.cell? 0
          have d1 := hF.cell? 1
          have d2 := hF.cell? 2
          try simp only at d0 d1 d2
          generalize hr : (rowTo p m x b i P0 k).getD (i + k) 0 = r at *
          generalize hyy : b.getD k 0 = y at *
          generalize hss : gm p m x y = s at *
          have hxor : bits .xor .i64 (r : Int) (s : Int) = ((r ^^^ s : Nat) : Int) := i64_xor _ _ (by omega) (by omega)
          rw [HAI.out] at k1
          clear kO hO hF hB hlen hR1 hR2 HGA HSTEP HPIN HPLEN HNA HNB HNN HPL e0 HPL2
          unfold fieldVal at ct
          go_wp2_with fail
          have hFl := HFF.out.lt
          go_region_with ((go_at_call 79; ((with_reducible refine (ct _).mono ?_); rintro e w5 ⟨rfl, hb5⟩; have f1 := (hb5.cell (p := ⟨w.heap.size + 1, i + k, none⟩) hOl).trans kO2; have f2 := (hb5.frozen (p := ⟨w.heap.size + 1, i + k, none⟩) hOl).trans fz)))
          all_goals (
            go_wp2
            go_roundw
            case rel => exact ⟨k + 1, by omega, by go_num, Arr.far (Arr.below HFF.out.drew hb5 HFF.out.lt) (by simp) _, by rw [HRS.out, ← ints_set]; exact Arr.set (Arr.below HOO.out.drew hb5 HOO.out.lt) _ _, Below.setCell (HBB.out.drew.trans (hb5.mono HBB.out.size)) (by simp) _⟩
            case measure => simp [intOf]; omega)
        · obtain rfl : k = nb := by omega
          have hlt2' : ¬ (k : Int) < (k : Int) := by omega
          have HOO := hid hO
          have HFF := hid hF
          have HBB := hid hB
          have HST2 := hid HST.out
          clear hO hF hB
          go_wp2
          go_roundw
          case rel => exact ⟨i + 1, by omega, by go_num, HFF.out, by rw [HST2.out]; exact HOO.out, HBB.out⟩
          case measure => simp [intOf]; omega
    · obtain rfl : i = na := by omega
      have hlt' : ¬ (i : Int) < (i : Int) := by omega
      have hR := Rd.of_arr hO
      rw [ints_length, HPLEN.out, HPL.out] at hR
      have HRR := hid hR
      have HBB := hid hB
      generalize prodL p m a b = pl at *
      clear hO hF hB hR A0 A3 B0
      go_wp2_with fail
      refine (rsTidy (some ⟨w.heap.size + 1, 0, none⟩) nn nn pl _ HRR.out (by omega) (by omega) (Nat.le_refl _)).mono ?_
      rintro e w4 ⟨A4, c4, rfl, hc4, hR4, hA4, hB4⟩
      have HBS := hid (HBB.out.size)
      go_wp2_with fail
      go_ret
      exact ⟨A4, c4, rfl, hc4, hR4, fun a e => Nat.le_trans HBS.out (hA4 a e), HBB.out.trans (hB4.mono HBS.out)⟩
end
/- FnRSScales: the walk of the law. -/
section
open Go.RowKit
set_option linter.unusedVariables false

theorem prod_one (p m c : Nat) (l : List Nat) : ∀ i, i ≤ l.length → prodTo p m l [c] i = (scaleBy p m c l).take i ++ List.replicate (l.length - i) 0
  | 0, _ => by simp [prodTo]
  | i + 1, h => by
    have ih := prod_one p m c l i (by omega)
    have hs := fill_set (scaleBy p m c l) l.length i (scale_len p m c l) (by omega)
    rw [prodTo, ih, ← hs]
    have hl : ((scaleBy p m c l).take i).length = i := by rw [List.length_take, scale_len]; omega
    have h0 : ((scaleBy p m c l).take i ++ List.replicate (l.length - i) 0).getD i 0 = 0 := by
      rw [List.getD, List.getElem?_append_right (by omega), hl]
      simp only [Nat.sub_self, List.getElem?_replicate]
      split <;> rfl
    have h1 : (scaleBy p m c l).getD i 0 = gm p m (l.getD i 0) c := by
      simp [scaleBy, List.getD, List.getElem?_eq_getElem (show i < l.length by omega)]
    show rowTo p m (l.getD i 0) [c] i _ 1 = _
    simp only [rowTo, Nat.add_zero]
    rw [h0, h1, Nat.zero_xor]
    rfl
theorem prodL_one (p m c : Nat) (l : List Nat) : prodL p m l [c] = scaleBy p m c l := by
  rw [prodL, prod_one p m c l l.length (Nat.le_refl _), List.take_of_length_le (by rw [scale_len]; exact Nat.le_refl _), Nat.sub_self]
  simp

theorem bn_t : (true != true) = false := rfl

end
end Go.Proofs.YtliephokeafllaaGreatDoor.Rs
