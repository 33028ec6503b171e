/- The walks of lists of elements: RSElements, RSTidy, rsPoly, impl.poly. -/
import Derived.Test.YtpkmknbmjlnkgaaTimesW
import Derived.Deep.RegionHeld3
namespace Go.Proofs.Ytpkmknbmjlnkgaa
open Go.RowKit
set_option linter.unusedVariables false

/-- A list of ints in new memory is handed back. -/
def ListOut (l : List Nat) (w : World) (e : Ending) (w' : World) : Prop :=
  ∃ A c, e = .returned (.slice A l.length c) ∧ l.length ≤ c ∧ Rd w' A l.length (ints l) ∧ (∀ a, A = some a → w.heap.size ≤ a.block) ∧ Below w.heap.size w w'

/-- The elements that the first k ints say. -/
def elems (N : Nat) (zs : List Int) (k : Nat) : List Nat := (zs.take k).map (elemOf N)
theorem elems_succ (N : Nat) (zs : List Int) (k : Nat) (h : k < zs.length) : elems N zs (k + 1) = elems N zs k ++ [elemOf N (zs.getD k 0)] := by
  unfold elems
  rw [List.take_succ_eq_append_getElem h, List.map_append]
  simp [List.getD, List.getElem?_eq_getElem h]
theorem elems_length (N : Nat) (zs : List Int) (k : Nat) (h : k ≤ zs.length) : (elems N zs k).length = k := by simp [elems]; omega

section
variable {g b : Nat} {o : Nat} {c0 c1 c2 v : Value} {w w1 : World}
theorem keep4_below (h : w.cell? ⟨g, 0, none⟩ = some c0 ∧ w.cell? ⟨g, 1, none⟩ = some c1 ∧ w.cell? ⟨g, 2, none⟩ = some c2 ∧ w.cell? ⟨b, o, none⟩ = some v ∧ g < w.heap.size ∧ b < w.heap.size) (hb : Below w.heap.size w w1) :
    w1.cell? ⟨g, 0, none⟩ = some c0 ∧ w1.cell? ⟨g, 1, none⟩ = some c1 ∧ w1.cell? ⟨g, 2, none⟩ = some c2 ∧ w1.cell? ⟨b, o, none⟩ = some v ∧ g < w1.heap.size ∧ b < w1.heap.size := by
  obtain ⟨h0, h1, h2, h3, h4, h5⟩ := h
  exact ⟨(hb.cell (p := ⟨g, 0, none⟩) h4).trans h0, (hb.cell (p := ⟨g, 1, none⟩) h4).trans h1, (hb.cell (p := ⟨g, 2, none⟩) h4).trans h2, (hb.cell (p := ⟨b, o, none⟩) h5).trans h3, Nat.lt_of_lt_of_le h4 hb.size, Nat.lt_of_lt_of_le h5 hb.size⟩
theorem keep4_alloc (x : Obj) (h : w.cell? ⟨g, 0, none⟩ = some c0 ∧ w.cell? ⟨g, 1, none⟩ = some c1 ∧ w.cell? ⟨g, 2, none⟩ = some c2 ∧ w.cell? ⟨b, o, none⟩ = some v ∧ g < w.heap.size ∧ b < w.heap.size) :
    (w.alloc x).cell? ⟨g, 0, none⟩ = some c0 ∧ (w.alloc x).cell? ⟨g, 1, none⟩ = some c1 ∧ (w.alloc x).cell? ⟨g, 2, none⟩ = some c2 ∧ (w.alloc x).cell? ⟨b, o, none⟩ = some v ∧ g < (w.alloc x).heap.size ∧ b < (w.alloc x).heap.size :=
  keep4_below h ((Below.refl _ _).alloc (Nat.le_refl _) _)
theorem keep4_drew (h : w.cell? ⟨g, 0, none⟩ = some c0 ∧ w.cell? ⟨g, 1, none⟩ = some c1 ∧ w.cell? ⟨g, 2, none⟩ = some c2 ∧ w.cell? ⟨b, o, none⟩ = some v ∧ g < w.heap.size ∧ b < w.heap.size) :
    w.drew.cell? ⟨g, 0, none⟩ = some c0 ∧ w.drew.cell? ⟨g, 1, none⟩ = some c1 ∧ w.drew.cell? ⟨g, 2, none⟩ = some c2 ∧ w.drew.cell? ⟨b, o, none⟩ = some v ∧ g < w.drew.heap.size ∧ b < w.drew.heap.size := h
theorem keep4_grown {row : Option Nat} (h : w.cell? ⟨g, 0, none⟩ = some c0 ∧ w.cell? ⟨g, 1, none⟩ = some c1 ∧ w.cell? ⟨g, 2, none⟩ = some c2 ∧ w.cell? ⟨b, o, none⟩ = some v ∧ g < w.heap.size ∧ b < w.heap.size) (hg : w.grownBy w1 row) (n1 : some g ≠ row) (n2 : some b ≠ row) :
    w1.cell? ⟨g, 0, none⟩ = some c0 ∧ w1.cell? ⟨g, 1, none⟩ = some c1 ∧ w1.cell? ⟨g, 2, none⟩ = some c2 ∧ w1.cell? ⟨b, o, none⟩ = some v ∧ g < w1.heap.size ∧ b < w1.heap.size := by
  obtain ⟨h0, h1, h2, h3, h4, h5⟩ := h
  have e1 := hg.block g h4 n1
  have e2 := hg.block b h5 n2
  exact ⟨(World.cell?_of_block (w := w) (a := ⟨g, 0, none⟩) e1).trans h0, (World.cell?_of_block (w := w) (a := ⟨g, 1, none⟩) e1).trans h1, (World.cell?_of_block (w := w) (a := ⟨g, 2, none⟩) e1).trans h2, (World.cell?_of_block (w := w) (a := ⟨b, o, none⟩) e2).trans h3, Nat.lt_of_lt_of_le h4 hg.size, Nat.lt_of_lt_of_le h5 hg.size⟩
end

theorem rd_z {w : World} {A : Option Addr} {n : Nat} {zs : List Int} {k : IntKind} (h : Rd w A n (zs.map (Value.int k))) (j : Nat) (hj : j < n) :
    ∃ b o, A = some ⟨b, o, none⟩ ∧ b < w.heap.size ∧ w.cell? ⟨b, o + j, none⟩ = some (.int k (zs.getD j 0)) := by
  obtain ⟨b, o, hA, hb, hc⟩ := h.2 (by omega)
  have hl : zs.length = n := by have := h.1; simpa using this
  refine ⟨b, o, hA, hb, ?_⟩
  rw [hc j (by rw [List.length_map]; omega)]
  simp [List.getD, List.getElem?_eq_getElem (show j < zs.length by omega)]

set_option maxHeartbeats 2000000 in
theorem rsElements (p N base : Nat) (A : Option Addr) (n c : Nat) (zs : List Int) (most : Nat) (w : World) (hN0 : 0 < N) (hN : N ≤ 65536) (hR : Rd w A n (zs.map (Value.int .i64))) (hn : n ≤ 2147483647) (hm : most ≤ 100000)
    (hz : ∀ j, -9223372036854775808 ≤ zs.getD j 0 ∧ zs.getD j 0 ≤ 9223372036854775807) :
    Calls Try.prog 33 #[fieldVal p N base, .slice A n c, .int .i64 most] w (ListOut (elems N zs (min n most)) w) := by
  have hl : zs.length = n := by have := hR.1; simpa using this
  obtain ⟨i0, hi, hz0, hz1, hz2⟩ := info_parts info3
  unfold fieldVal
  go_enter Try.func33, Try.ntmps33
  go_wp2
  have A0 := Arr.of_new w 23 #[.int .i64 p, .int .i64 N, .int .i64 base]
  have B0 : Below w.heap.size w (w.alloc (.cells #[.int .i64 p, .int .i64 N, .int .i64 base] 23)) := (Below.refl _ _).alloc (Nat.le_refl _) _
  generalize w.alloc (.cells #[.int .i64 p, .int .i64 N, .int .i64 base] 23) = w1 at A0 B0 ⊢
  have HL := hid hl
  clear hl
  go_loopw [7, 8] (fun v i wr => ∃ k : Nat, k ≤ min n most ∧ i = .int .i64 k ∧ Own wr (w.heap.size + 1) 3 v (ints (elems N zs k)) ∧ Arr wr w.heap.size 23 [.int .i64 p, .int .i64 N, .int .i64 base] ∧ Below w.heap.size w wr) (fun _ i _ => min n most - (intOf i).toNat)
  case atStart => exact ⟨0, by omega, rfl, Own.nil _ _ _, A0, B0⟩
  case round =>
    obtain ⟨k, hk, rfl, hO, hA, hB⟩ := hrel
    by_cases hlt : k < min n most
    · have h1 : (k : Int) < (n : Int) := by omega
      have h2 : (k : Int) < (most : Int) := by omega
      obtain ⟨b, o, rfl, hbw, hc⟩ := rd_z (hR.below hB) k (by omega)
      have hbw0 : b < w.heap.size := by
        obtain ⟨b', o', e, hb', _⟩ := hR.2 (by omega)
        cases e; exact hb'
      have HE := hid (elems_succ N zs k (by rw [HL.out]; omega))
      have hel := elems_length N zs k (by rw [HL.out]; omega)
      have HEL := hid hel
      have hzk := hz k
      have re := fun W => rsElement p N base (zs.getD k 0) W hN0 hN hzk.1 hzk.2
      generalize zs.getD k 0 = z at *
      generalize elemOf N z = x at *
      have hOlt := hO.lt
      have d0 := hA.cell? 0
      have d1 := hA.cell? 1
      have d2 := hA.cell? 2
      have hgl := hA.lt
      try simp only at d0 d1 d2
      have n1 : some w.heap.size ≠ u7.ownBlock := fun e => by have := hOlt _ e.symm; omega
      have n2 : some b ≠ u7.ownBlock := fun e => by have := hOlt _ e.symm; omega
      have HO := hid hO
      have HA := hid hA
      have HOL := hid hOlt
      unfold fieldVal at re
      clear hO hA hOlt hz hel
      go_wp2_with fail
      go_region_held3 (fun w' => w'.cell? ⟨w.heap.size, 0, none⟩ = some (.int .i64 p) ∧ w'.cell? ⟨w.heap.size, 1, none⟩ = some (.int .i64 N) ∧ w'.cell? ⟨w.heap.size, 2, none⟩ = some (.int .i64 base) ∧ w'.cell? ⟨b, o + k, none⟩ = some (.int .i64 z) ∧ w.heap.size < w'.heap.size ∧ b < w'.heap.size)
        (first | exact ⟨d0, d1, d2, hc, hgl, hbw⟩ | exact keep4_below (by assumption) hb5 | exact keep4_alloc _ (by assumption) | exact keep4_grown (by assumption) hg6 n1 n2)
        (first
          | (go_at_call 11; ((with_reducible refine (re _).mono ?_); rintro e w5 ⟨rfl, hb5⟩))
          | (refine step_app _ (by rfl) _ _ 30 (by rfl) (w.heap.size + 1) 3 i0 _ 8 Try.underlying30 hi hz0 hz1 hz2 rfl u7 (ints (elems N zs k)) (by rfl) (((HO.out.drew).below hb5 (fun j hj => (HOL.out j hj).2)).alloc _) (some ⟨w5.heap.size, 0, none⟩) 1 1 [.int .i64 (x : Nat)] (by rfl) (Rd.one _ _ _) (by simp [Value.oneCell']) (by rw [ints_length, HEL.out]; unfold maxLen; omega) (by rw [ints_length, HEL.out]; omega) (by simp; have := hb5.size; simp at this; omega) ?_; intro v6 w6 hO6 hg6 hat6))
      have hB5 := (hB.drew).trans (hb5.mono hB.size)
      have hB6 : Below w.heap.size w w6 := (hB5.alloc hB5.size (.cells #[.int .i64 (x : Nat)] 3)).grown hg6 (by have := hB5.size; simp; omega) (fun j hj => by have := HOL.out j hj; omega)
      have hA6 := (((HA.out.drew).below hb5 HA.out.lt).alloc (.cells #[.int .i64 (x : Nat)] 3)).grown hg6 n1
      clear hb5 hg6 hB5 d0 d1 d2 hc
      go_wp2
      go_roundw
      case rel =>
        refine ⟨k + 1, by omega, by go_num, ?_, hA6, hB6⟩
        rw [HE.out, ints, List.map_append]
        exact hO6
      case measure => simp [intOf]; omega
    · obtain rfl : k = min n most := by omega
      have hlen := elems_length N zs (min n most) (by rw [HL.out]; omega)
      obtain ⟨A', c', hv, hR', hc'⟩ := hO.form
      have hBl := hO.lt
      subst hv
      rw [ints_length] at hR' hc'
      have HA' := hid (show ∀ a, A' = some a → w.heap.size ≤ a.block from fun a e => by
        subst e
        have := (hBl a.block rfl).1
        omega)
      have HR := hid hR'
      clear hA hO hR' hBl
      obtain ⟨k, hke⟩ : ∃ k, k = min n most := ⟨_, rfl⟩
      rw [← hke] at hc' hlen HR ⊢
      rw [hlen] at hc'
      have HLN := hid hlen
      clear hlen
      by_cases hkn : k < n
      · have h1 : (k : Int) < (n : Int) := by omega
        have h2 : ¬ (k : Int) < (most : Int) := by omega
        have HK := hid hke
        clear hke hk hlt
        go_wp2
        go_ret
        rw [← HK.out]
        exact ⟨A', c', by rw [ints_length]; rfl, by rw [HLN.out]; exact hc', HR.out, HA'.out, hB⟩
      · have h1 : ¬ (k : Int) < (n : Int) := by omega
        have HK := hid hke
        clear hke hk hlt
        go_wp2
        go_ret
        rw [← HK.out]
        exact ⟨A', c', by rw [ints_length]; rfl, by rw [HLN.out]; exact hc', HR.out, HA'.out, hB⟩

/-- Onto what was handed over nothing is appended: the list stands in new memory. -/
theorem listOut_of_own {w w' : World} {B : Nat} {v : Value} {l : List Nat} (hO : Own w' B 3 v (ints l)) (hB : Below w.heap.size w w') (hBw : w.heap.size ≤ B) : ListOut l w (.returned v) w' := by
  obtain ⟨A, c, hv, hR, hc⟩ := hO.form
  have hBl := hO.lt
  subst hv
  rw [ints_length] at hR hc ⊢
  exact ⟨A, c, rfl, hc, hR, fun a e => by subst e; have := (hBl a.block rfl).1; omega, hB⟩

theorem Own.lit0 (w : World) (e : TypeId) {B : Nat} (hB : B ≤ w.heap.size) : Own (w.alloc (.cells #[] e)) B e (.slice (some ⟨w.heap.size, 0, none⟩) 0 0) [] :=
  World.ownsRow_lit w #[] 0 hB (by simp [maxLen]) rfl

/-- How many zeros are ahead, but for the last one. -/
theorem tidy_of (l : List Nat) (k : Nat) (hk : k < l.length) (hz : ∀ j, j < k → l.getD j 0 = 0) (hs : l.getD k 0 ≠ 0 ∨ k = l.length - 1) : tidy l = l.drop k := by
  rw [tidy_drop l k hk hz]
  refine tidy_first ?_ (by rw [List.length_drop]; omega)
  rcases hs with h | h
  · left; rw [getD_drop0]; exact h
  · right; rw [List.length_drop]; omega

set_option maxHeartbeats 1000000 in
theorem rsTidy (A : Option Addr) (n c : Nat) (l : List Nat) (w : World) (hR : Rd w A n (ints l)) (hn : 1 ≤ n) (hn2 : n ≤ 1000000) (hc : n ≤ c) :
    Calls Try.prog 34 #[.slice A n c] w (ListOut (tidy l) w) := by
  have hl : l.length = n := by have := hR.1; simpa [ints] using this
  have HL := hid hl
  obtain ⟨i0, hi, hz0, hz1, hz2⟩ := info_parts info3
  obtain ⟨b, o, rfl, hb, _⟩ := rd_int hR 0 (by omega)
  clear hl
  go_enter Try.func34, Try.ntmps34
  go_wp2
  go_loop [3] (fun i => ∃ k : Nat, k ≤ n - 1 ∧ i = .int .i64 k ∧ Hid (∀ j, j < k → l.getD j 0 = 0)) (fun i => n - 1 - (intOf i).toNat)
  case atStart => exact ⟨0, by omega, rfl, hid (fun j hj => by omega)⟩
  case round =>
    obtain ⟨k, hk, rfl, hzs⟩ := hrel
    obtain ⟨b', o', he, _, hck⟩ := rd_int hR k (by omega)
    cases he
    have hkn : (k : Int) < (n : Int) := by omega
    by_cases hgo : k < n - 1 ∧ l.getD k 0 = 0
    · obtain ⟨hlt, hz⟩ := hgo
      have hlt' : (k : Int) < (n : Int) - 1 := by omega
      rw [hz] at hck
      simp only [Int.natCast_zero] at hck
      have HZ' := hid hz
      clear hz
      go_wp2
      go_round
      case rel =>
        refine ⟨k + 1, by omega, by go_num, hid (fun j hj => ?_)⟩
        rcases Nat.lt_or_ge j k with h2 | h2
        · exact hzs.out j h2
        · rw [show j = k from by omega]; exact HZ'.out
      case measure => simp [intOf]; omega
    · have HT := hid (tidy_of l k (by rw [HL.out]; omega) hzs.out (by
        rcases Nat.lt_or_ge k (n - 1) with h | h
        · left; intro hz; exact hgo ⟨h, hz⟩
        · right; rw [HL.out]; omega))
      have hgo' := hid hgo
      clear hgo
      have hlen := hid (show (tidy l).length = n - k by rw [HT.out, List.length_drop, HL.out])
      have hRd := hid (Rd.drop hR k (by omega))
      by_cases hlt : k < n - 1
      · have hlt' : (k : Int) < (n : Int) - 1 := by omega
        have hz' : (((l.getD k 0 : Nat) : Int) == 0) = false := by rw [beq_eq_false_iff_ne]; intro e; exact hgo'.out ⟨hlt, by omega⟩
        generalize l.getD k 0 = lk at *
        go_wp2_with (at_builtin; refine wpList_app _ rfl _ _ 30 rfl w.heap.size 3 i0 _ 8 Try.underlying30 hi hz0 hz1 hz2 rfl (.slice (some ⟨w.heap.size, 0, none⟩) 0 0) [] rfl (Own.lit0 _ _ (Nat.le_refl _)) (some ⟨b, o + k, none⟩) (n - k) (c - k) (ints (tidy l)) rfl (by rw [HT.out, ints, List.map_drop]; exact hRd.out.alloc _) (ints_one _) (by simp [maxLen]; omega) (by simp; omega) (by simp) ?_)
        intro v1 w2 hO hg _
        have hB : Below w.heap.size w w2 := ((Below.refl _ w).alloc (Nat.le_refl _) (.cells #[] 3)).grown hg (by simp) (fun j hj => by simp [Value.ownBlock] at hj; omega)
        have HO := hid hO
        clear hO hg
        go_wp2
        go_ret
        exact listOut_of_own HO.out hB (Nat.le_refl _)
      · have hlt' : ¬ (k : Int) < (n : Int) - 1 := by omega
        go_wp2_with (at_builtin; refine wpList_app _ rfl _ _ 30 rfl w.heap.size 3 i0 _ 8 Try.underlying30 hi hz0 hz1 hz2 rfl (.slice (some ⟨w.heap.size, 0, none⟩) 0 0) [] rfl (Own.lit0 _ _ (Nat.le_refl _)) (some ⟨b, o + k, none⟩) (n - k) (c - k) (ints (tidy l)) rfl (by rw [HT.out, ints, List.map_drop]; exact hRd.out.alloc _) (ints_one _) (by simp [maxLen]; omega) (by simp; omega) (by simp) ?_)
        intro v1 w2 hO hg _
        have hB : Below w.heap.size w w2 := ((Below.refl _ w).alloc (Nat.le_refl _) (.cells #[] 3)).grown hg (by simp) (fun j hj => by simp [Value.ownBlock] at hj; omega)
        have HO := hid hO
        clear hO hg
        go_wp2
        go_ret
        exact listOut_of_own HO.out hB (Nat.le_refl _)

set_option maxHeartbeats 1000000 in
theorem rsPoly (p N base : Nat) (A : Option Addr) (n c : Nat) (zs : List Int) (most : Nat) (w : World) (hN0 : 0 < N) (hN : N ≤ 65536) (hR : Rd w A n (zs.map (Value.int .i64))) (hn : n ≤ 2147483647) (hm : most ≤ 100000)
    (hz : ∀ j, -9223372036854775808 ≤ zs.getD j 0 ∧ zs.getD j 0 ≤ 9223372036854775807) :
    Calls Try.prog 15 #[fieldVal p N base, .slice A n c, .int .i64 most] w (ListOut (tidy (elems N zs (min n most))) w) := by
  have hl : zs.length = n := by have := hR.1; simpa using this
  have hlen := elems_length N zs (min n most) (by omega)
  have hre := fun W hR => rsElements p N base A n c zs most W hN0 hN hR hn hm hz
  generalize elems N zs (min n most) = l at *
  have hl2 : l.length ≤ 100000 := by omega
  unfold fieldVal at *
  clear hl hlen hz
  go_enter Try.func15, Try.ntmps15
  go_wp2_with fail
  refine (hre _ (hR.alloc _)).mono ?_
  rintro e w1 ⟨A', c', rfl, hc', hR', hA', hB⟩
  have hB' : Below w.heap.size w w1 := ((Below.refl _ w).alloc (Nat.le_refl _) (.cells #[.int .i64 p, .int .i64 N, .int .i64 base] 23)).trans (hB.mono (by simp))
  clear hre hB hR
  rcases Nat.eq_zero_or_pos l.length with h0 | h0
  · obtain rfl : l = [] := List.eq_nil_of_length_eq_zero h0
    clear hR' hc' h0
    go_wp2_with fail
    refine (rsTidy _ 1 1 [0] _ (Rd.of_arr (Arr.of_new w1 3 #[.int .i64 0])) (by omega) (by omega) (by omega)).mono ?_
    rintro e w2 ⟨A2, c2, rfl, hc2, hR2, hA2, hB2⟩
    go_wp2_with fail
    go_ret
    exact ⟨A2, c2, rfl, hc2, hR2, fun a e => by have := hA2 a e; have := hB'.size; simp at *; omega, (hB'.alloc hB'.size _).trans (hB2.mono (by have := hB'.size; simp; omega))⟩
  · have h0' : ((l.length : Int) == 0) = false := by rw [beq_eq_false_iff_ne]; omega
    go_wp2_with fail
    refine (rsTidy A' _ c' l _ hR' h0 (by omega) hc').mono ?_
    rintro e w2 ⟨A2, c2, rfl, hc2, hR2, hA2, hB2⟩
    go_wp2_with fail
    go_ret
    exact ⟨A2, c2, rfl, hc2, hR2, fun a e => Nat.le_trans hB'.size (hA2 a e), hB'.trans (hB2.mono hB'.size)⟩

set_option maxHeartbeats 1000000 in
theorem implPoly (F : Option Addr) (A : Option Addr) (n c : Nat) (l : List Nat) (w : World) (hR : Rd w A n (ints l)) (hn : 1 ≤ n) (hn2 : n ≤ 1000000) :
    Calls Try.prog 35 #[.pointer F, .slice A n c] w (PolyOut w.heap.size (.pointer F) (tidy l) w) := by
  obtain ⟨i0, hi, hz0, hz1, hz2⟩ := info_parts info3
  have hl : l.length = n := by have := hR.1; simpa [ints] using this
  have HL := hid hl
  clear hl
  go_enter Try.func35, Try.ntmps35
  go_wp2_with (at_builtin; refine wpList_app _ rfl _ _ 30 rfl w.heap.size 3 i0 _ 8 Try.underlying30 hi hz0 hz1 hz2 rfl _ [] rfl (Own.nil _ _ _) A n c (ints l) rfl hR (ints_one l) (by simp [maxLen]; omega) (by simp; omega) (Nat.le_refl _) ?_)
  intro v w1 hO hg _
  obtain ⟨A', c', hv, hR', hc'⟩ := hO.form
  have hBl := hO.lt
  have hl2 : ([] ++ ints l).length = n := by simp [ints_length, HL.out]
  simp only [List.nil_append] at hv hR' hc' hl2
  rw [hl2] at hv hR' hc'
  subst hv
  have hB : Below w.heap.size w w1 := (Below.refl _ _).grown hg (Nat.le_refl _) (by simp [Value.ownBlock])
  clear hO hg hl2 hi hz0 hz1 hz2
  have HB := hid hBl
  clear hBl
  go_wp2_with fail
  refine (newPoly F A' n c' l w.heap.size w1 hR' hn hn2 hc' (fun a e => by subst e; exact (HB.out a.block rfl).1) hB.size).mono ?_
  rintro e w2 ⟨q, rfl, hq, hP, hB2⟩
  go_wp2_with fail
  go_ret2
  exact ⟨q, rfl, Nat.le_trans hB.size hq, hP, hB.trans (hB2.mono hB.size)⟩
end Go.Proofs.Ytpkmknbmjlnkgaa
