/- QR codes: FnQRSpeaks: what was written as the standard says is said as it was. -/
import Derived.Test.YtpffffhgmhpkiaaSpV
import Derived.Deep.DrawnRows
import Derived.BigRegion
namespace Go.Proofs.Ytpffffhgmhpkiaa
open Go.RowKit
set_option linter.unusedVariables false
set_option linter.unusedSimpArgs false
attribute [local go_sem ↓] Go.wp_at_zero Go.wp_at_succ

theorem below_drew {B : Nat} {a w : World} (h : Below B a w.drew) : Below B a w := ⟨h.os, h.tape, h.output, h.size, h.block⟩
theorem drew_below {B : Nat} {a w : World} (h : Below B a.drew w) : Below B a w := ⟨h.os, h.tape, h.output, h.size, h.block⟩
theorem SegG.below {w w' : World} {B : Nat} {xs : List Value} {bl : List (List Nat)} (h : SegG w B xs bl) (hb : Below w.heap.size w w') : SegG w' B xs bl :=
  ⟨h.1, fun i hi => by
    obtain ⟨A, c, e, h1, h2⟩ := h.2 i hi
    exact ⟨A, c, e, h1.below hb, h2⟩⟩
theorem below_drew_r {B : Nat} {a w : World} (k : Nat) (h : Below B a w) : Below B a (w.drew.drewN k) := ⟨h.os, h.tape, h.output, h.size, h.block⟩
/-- The world in which the segments were read back. -/
structure AtSp (w0 : World) (A : Option Addr) (n : Nat) (S : List (Nat × List Nat)) (d : Nat) (st ec : ByteArray) (A1 A2 : Option Addr) (n1 c1 n2 c2 B0 : Nat) (xs : List Value) (w : World) : Prop where
  arr : Arr w d 53 [.string st, .slice A1 n1 c1, .slice A2 n2 c2, .string ec, .int .i64 0, .int .i64 (-1), .int .i64 (-1), .int .i64 1]
  seg : SegM w A n S
  bs : SegG w B0 xs (bytesOf S)
  rd : Rd w A2 n2 xs
  below : Below w0.heap.size w0 w
theorem AtSp.cells {w0 : World} {A : Option Addr} {n : Nat} {S : List (Nat × List Nat)} {d : Nat} {st ec : ByteArray} {A1 A2 : Option Addr} {n1 c1 n2 c2 B0 : Nat} {xs : List Value} {w : World} (h : AtSp w0 A n S d st ec A1 A2 n1 c1 n2 c2 B0 xs w) :
    w.cell? ⟨d, 0, none⟩ = some (.string st) ∧ w.cell? ⟨d, 1, none⟩ = some (.slice A1 n1 c1) ∧ w.cell? ⟨d, 2, none⟩ = some (.slice A2 n2 c2) ∧ w.cell? ⟨d, 3, none⟩ = some (.string ec) ∧
    w.cell? ⟨d, 4, none⟩ = some (.int .i64 0) ∧ w.cell? ⟨d, 5, none⟩ = some (.int .i64 (-1)) ∧ w.cell? ⟨d, 6, none⟩ = some (.int .i64 (-1)) ∧ w.cell? ⟨d, 7, none⟩ = some (.int .i64 1) :=
  ⟨h.arr.cell? 0, h.arr.cell? 1, h.arr.cell? 2, h.arr.cell? 3, h.arr.cell? 4, h.arr.cell? 5, h.arr.cell? 6, h.arr.cell? 7⟩
theorem AtSp.says {w0 : World} {A : Option Addr} {n c lv : Nat} {S : List (Nat × List Nat)} {d : Nat} {st ec : ByteArray} {A1 A2 : Option Addr} {n1 c1 n2 c2 B0 : Nat} {xs : List Value} {w : World} (h : AtSp w0 A n S d st ec A1 A2 n1 c1 n2 c2 B0 xs w)
    (hn2 : n2 = (bytesOf S).length) (hS : ∀ x ∈ S, SegOk x ∧ Prn x.2) (hSl : S.length ≤ 4) (hlv : lv < 4) :
    Calls Try.prog 25 #[.agg #[.string (strOf (textOf S)), .slice A1 n1 c1, .slice A2 n2 c2, .string (lvStr lv), .int .i64 0, .int .i64 (-1), .int .i64 (-1), .int .i64 1], .slice A n c, .int .i64 lv] w (SaysOut w) :=
  saysQ S A A1 A2 n c n1 c1 n2 c2 lv B0 xs w h.seg hS hSl hlv hn2 h.rd h.bs
set_option maxRecDepth 20000 in
set_option maxHeartbeats 16000000 in
theorem FnQRSpeaks_walk (w : World) (A : Option Addr) (n c : Nat) (l : List (Int × List Nat)) (hM : SegI w A n l) (hn63 : n ≤ maxLen) (hl : ∀ y ∈ l, (-9223372036854775808 ≤ y.1 ∧ y.1 ≤ 9223372036854775807) ∧ (∀ c ∈ y.2, c < 256) ∧ y.2.length ≤ maxLen)
    (a1 : Int) (u1 : (Lit.int .u8 a1).wf = true) (a2 : Int) (u2 : (Lit.int .u8 a2).wf = true) :
    Calls Try.prog 5 #[.slice A n c, .int .u8 a1, .int .u8 a2] w fun e w' => e = .returned (.bool true) ∧ Below w.heap.size w w' := by
  have b1 := wf_u8 u1
  have b2 := wf_u8 u2
  obtain ⟨z1, rfl⟩ : ∃ z : Nat, a1 = z := ⟨a1.toNat, by omega⟩
  obtain ⟨z2, rfl⟩ : ∃ z : Nat, a2 = z := ⟨a2.toNat, by omega⟩
  have v1 := fun W => qrVer z1 (by omega) W
  have v2 := fun W => qrLev z2 (by omega) W
  obtain ⟨v, hv⟩ : ∃ v, v = z1 % 40 + 1 := ⟨_, rfl⟩
  obtain ⟨lv, hlv⟩ : ∃ lv, lv = z2 % 4 := ⟨_, rfl⟩
  rw [← hv] at v1
  rw [← hlv] at v2
  have hv1 : 1 ≤ v := by omega
  have hv40 : v ≤ 40 := by omega
  have hl4 : lv < 4 := by omega
  have HM := hid hM
  have HN := hid hM.1
  have HL := hid hl
  have ft := fits20 l A n c w hM (by simp only [maxLen] at hn63; omega) (fun x hx => by have := (hl x hx).2.2; simp only [maxLen] at this; omega)
  unfold FitsOut at ft
  clear hv hlv hM hl hn63
  go_enter Try.func5, Try.ntmps5
  go_wp2_with fail
  refine ft.mono ?_
  rintro e w1 ⟨b, rfl, hb, hB1⟩
  have HB1 := hid hB1
  have HBb := hid hb
  clear hB1 hb ft
  cases b with
  | false =>
    go_wp2_with fail
    go_ret
    exact ⟨rfl, HB1.out⟩
  | true =>
    obtain ⟨f1, f2⟩ := HBb.out rfl
    have hM1 : SegI w1 A n l := ⟨HM.out.1, fun hn => by
      obtain ⟨b, o, e, hl, hc⟩ := HM.out.2 hn
      refine ⟨b, o, e, Nat.lt_of_lt_of_le hl HB1.out.size, fun k hk => ?_⟩
      obtain ⟨R, c, a0, a1, a2, a3⟩ := hc k hk
      exact ⟨R, c, a0, (HB1.out.cell (p := ⟨b, o + k * 2, none⟩) hl).trans a1, (HB1.out.cell (p := ⟨b, o + k * 2 + 1, none⟩) hl).trans a2, a3.below HB1.out⟩⟩
    have sq := segsQ l A n c w1 hM1 (by rw [← HN.out]; exact f1) f2 (fun x hx => (HL.out x hx).1) (fun x hx => (HL.out x hx).2.1)
    unfold SegsOut at sq
    clear f1 f2 hM1
    go_wp2_with fail
    refine sq.mono ?_
    rintro e w2 ⟨A', n', c', S, rfl, hSM, hS4, hSO, hb2⟩
    have HB2 := hid (HB1.out.trans (hb2.mono HB1.out.size))
    have HSM := hid hSM
    have HSO := hid hSO
    have wq := wordsOfQ v lv S A' n' c' w2 hv1 hv40 hl4 (fun x hx => (hSO x hx).1) hS4 hSM
    unfold WordsOut at wq
    clear sq hSM hSO hb2 HB1 HBb HM HN HL
    go_wp2_with fail
    refine (v1 _).mono ?_
    rintro e w3 ⟨rfl, rfl⟩
    go_wp2_with fail
    refine (v2 _).mono ?_
    rintro e w3 ⟨rfl, rfl⟩
    go_wp2_with fail
    refine wq.mono ?_
    rintro e w3 ⟨hor, hb3⟩
    have HB3 := hid (HB2.out.trans (hb3.mono HB2.out.size))
    have HSM3 := hid (HSM.out.below hb3)
    clear wq hb3 HSM HB2
    rcases hor with ⟨x, rfl⟩ | ⟨vw, room, rfl, hroom, hlen, hO⟩
    · go_wp2_with fail
      go_ret
      exact ⟨rfl, HB3.out⟩
    · obtain ⟨r1, r2, r3⟩ := words_read (strD v S) room (strD_fits v S (fun x hx => (HSO.out x hx).1)) hlen
      have hWlt := words_lt (bitsD (strD v S)) room
      obtain ⟨W, hW⟩ : ∃ W, W = wordsQ (bitsD (strD v S)) room := ⟨_, rfl⟩
      rw [← hW] at r1 r2 r3 hO hWlt
      obtain ⟨Aw, cw, hvw, hRw, _⟩ := hO.form
      rw [u8s_len] at hvw hRw
      subst hvw
      rw [← r1] at hlen r3
      have pq := fun V hR => parseQ W Aw cw v lv S V hR (getD_lt hWlt) (by omega) hv1 hv40 hl4 (fun x hx => (HSO.out x hx).1) hS4 r2 r3 hlen
      have pq3 := pq w3 hRw
      unfold DcdOut at pq3
      have HRw := hid hRw
      have HWlt := hid hWlt
      have hWl : W.length ≤ 3706 := by omega
      obtain ⟨st, hst⟩ : ∃ st, st = strOf (textOf S) := ⟨_, rfl⟩
      rw [← hst] at pq3
      have HST := hid hst
      clear pq hW r1 r2 r3 hlen hO hRw hWlt hst
      go_wp2_with fail
      refine (v1 _).mono ?_
      rintro e w4 ⟨rfl, rfl⟩
      go_wp2_with fail
      refine (v2 _).mono ?_
      rintro e w4 ⟨rfl, rfl⟩
      go_wp2_with fail
      refine pq3.mono ?_
      rintro e w4 ⟨A1, A2, c1, c2, xs, rfl, hra, hrb, hsg, hb4⟩
      have HB4 := hid (HB3.out.trans (hb4.mono HB3.out.size))
      have HSM4 := hid (HSM3.out.below hb4)
      have HRw4 := hid (HRw.out.below hb4)
      have HRA := hid hra.1
      have HRB := hid hrb.1
      have HSG := hid hsg
      obtain ⟨bn, hbn⟩ : ∃ bn, bn = (bytesOf S).length := ⟨_, rfl⟩
      rw [← hbn] at HRB ⊢
      have HBN := hid hbn
      obtain ⟨wl, hwl⟩ : ∃ wl, wl = W.length := ⟨_, rfl⟩
      rw [← hwl] at HRA HRw4 hWl ⊢
      obtain ⟨ec, hec⟩ : ∃ ec, ec = lvStr lv := ⟨_, rfl⟩
      rw [← hec]
      have HEC := hid hec
      clear pq3 hra hrb hsg hb4 HB3 HSM3 HRw hbn hwl hec
      obtain ⟨w5, hw5⟩ : ∃ w5, w5 = w4.alloc (.cells #[.string st, .slice A1 wl c1, .slice A2 bn c2, .string ec, .int .i64 0, .int .i64 (-1), .int .i64 (-1), .int .i64 1] 53) := ⟨_, rfl⟩
      have hb45 : Below w4.heap.size w4 w5 := by rw [hw5]; exact (Below.refl _ _).alloc (Nat.le_refl _) _
      have HD := hid (show Arr w5 w4.heap.size 53 [.string st, .slice A1 wl c1, .slice A2 bn c2, .string ec, .int .i64 0, .int .i64 (-1), .int .i64 (-1), .int .i64 1] from by rw [hw5]; exact Arr.of_new _ _ _)
      have HB5 := hid (HB4.out.trans (hb45.mono HB4.out.size))
      have HSM5 := hid (HSM4.out.below hb45)
      have HSG5 := hid (HSG.out.below hb45)
      have HRA5 := hid (HRA.out.below hb45)
      have HRB5 := hid (HRB.out.below hb45)
      have HRw5 := hid (HRw4.out.below hb45)
      have HW5 := hid hw5.symm
      clear hw5 hb45 HB4 HSM4 HSG HRA HRB HRw4
      go_wp2_with fail
      rw [HW5.out]
      obtain ⟨d, hd⟩ : ∃ d, d = w4.heap.size := ⟨_, rfl⟩
      rw [← hd] at HD ⊢
      clear HW5 hd
      have tst24 : Calls Try.prog 24 #[.slice A1 wl c1, .slice Aw wl cw] w5.drew (fun e w' => e = .returned (.bool true) ∧ AtSp w A' n' S d st ec A1 A2 wl c1 bn c2 w3.heap.size xs w') := by
        refine (sameBytesQ A1 Aw wl c1 cw W w5.drew HRA5.out.drew HRw5.out.drew HWlt.out (by omega)).mono ?_
        rintro e w' ⟨rfl, k, rfl⟩
        exact ⟨rfl, HD.out, HSM5.out, HSG5.out, HRB5.out, below_drew_r k HB5.out⟩
      have e1 : w5.cell? ⟨d, 1, none⟩ = some (.slice A1 wl c1) := HD.out.cell? 1
      have SAY := hid (fun W (h : AtSp w A' n' S d st ec A1 A2 wl c1 bn c2 w3.heap.size xs W) => show Calls Try.prog 25 #[.agg #[.string st, .slice A1 wl c1, .slice A2 bn c2, .string ec, .int .i64 0, .int .i64 (-1), .int .i64 (-1), .int .i64 1], .slice A' n' c', .int .i64 lv] W (SaysOut W) from by
        rw [HST.out, HEC.out]
        exact h.says HBN.out HSO.out hS4 hl4)
      clear HD HSM5 HSG5 HRA5 HRB5 HRw5
      go_region_with ((first
        | (go_at_call 24; ((with_reducible refine tst24.mono ?_); rintro e w6 ⟨rfl, hA6⟩; obtain ⟨z0, z1, z2, z3, z4, z5, z6, z7⟩ := hA6.cells; have tst25 := SAY.out w6 hA6; have HA6 := hid hA6; clear hA6))
        | (go_at_call 16; ((with_reducible refine (v2 _).mono ?_); rintro e w7 ⟨rfl, rfl⟩))
        | (go_at_call 25; ((with_reducible refine tst25.mono ?_); rintro e w8 ⟨rfl, hb8⟩))))
      all_goals (
        go_wp2_with fail
        go_ret
        exact ⟨rfl, HA6.out.below.trans (hb8.mono HA6.out.below.size)⟩)
end Go.Proofs.Ytpffffhgmhpkiaa
