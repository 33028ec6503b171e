/- impl.AZDecode on the modules of a symbol. -/
import Derived.Test.YtliephokeafllaaGreatDoorBaB
namespace Go.Proofs.YtliephokeafllaaGreatDoor
open Go.RowKit
set_option linter.unusedVariables false
set_option linter.unusedSimpArgs false

set_option maxRecDepth 100000 in
set_option maxHeartbeats 8000000 in
theorem azDecodeM (c : Bool) (L : Nat) (hL0 : 1 ≤ L) (hL : L ≤ 32) (nb al r wd : Nat) (A : Option Addr) (cp : Nat) (X : Nat → Nat → Bool) (ws T : List Nat) (w : World)
    (hX : RdRows w A (azWhole c L) (brow X (azWhole c L))) (hLd : LaidTo c L (layBits r wd ws) (azBitsN c L) X)
    (hwd : wd = azW L) (hwl : ws.length = al) (hal0 : al = azBitsN c L / wd) (hr : r = azBitsN c L % wd)
    (hnb : 1 ≤ nb) (hal : nb ≤ al) (hC : Rs.CodeL (azP wd) wd 1 (al - nb) al ws) (hin : ∀ k, k < nb → ws.getD k 0 ≠ 0 ∧ ws.getD k 0 ≠ 2 ^ wd - 1)
    (hruns : Runs (unst wd (ws.take nb)) T 0 0 0 []) :
    Calls Tryz.prog 9 #[.slice A (azWhole c L) cp, .bool c, .int .i64 (nb : Nat), .int .i64 (L : Nat)] w (DecOut (strOf T) w) := by
  have hH200 : azWhole c L ≤ 200 := by cases c <;> simp [azWhole, azHalf] <;> omega
  have hH1 : 1 ≤ azWhole c L := by cases c <;> simp [azWhole, azHalf] <;> omega
  have HG := hid (fun w0 (hb : Below w.heap.size w w0) => gridOf A cp (azWhole c L) (azWhole c L) ((azWhole c L + 31) / 32) X w0 (hX.below hb) hH1 (by omega) hH1 (by omega) rfl)
  have HDE := hid (fun (w3 : World) (d dd de q g : Nat) (wsB : List Nat) (v0 : Value) (hd : Arr w3 d 78 [v0]) (hdd : Arr w3 dd 82 [.pointer (some ⟨de, 0, none⟩), .bool c, .int .i64 (nb : Nat), .int .i64 (L : Nat)]) (hde : Arr w3 de 109 [.pointer (some ⟨q, 0, none⟩), .slice none 0 0])
    (h1 : q < d) (h2 : g < d) (h3 : d < dd) (h4 : d < de) (hM : IsMat w3 q g 145 146 (azWhole c L) (azWhole c L) ((azWhole c L + 31) / 32) wsB (allB X (azWhole c L))) =>
    decodeM c L hL0 hL d dd de q g ((azWhole c L + 31) / 32) nb al r wd v0 (allB X (azWhole c L)) wsB ws T w3 hd hdd hde h1 h2 h3 h4 hM (by omega) hwd hwl hal0 hr (fun i k j n hI => by
      have h1 : azX c L i k j n < azWhole c L := azPl_lt (azU_lt hI)
      unfold allB
      simp only [h1, decide_true, Bool.true_and]
      exact hLd i k j n hI (azIdx_lt hI)) hnb hal hC hin hruns)
  have HA0 := hid (show Arr (w.alloc (.cells #[.string ⟨#[]⟩, .slice none 0 0, .slice none 0 0, .string ⟨#[]⟩, .int .i64 0, .int .i64 0, .int .i64 0, .int .i64 0] 35)) w.heap.size 35 zer35 from Arr.of_new w 35 #[.string ⟨#[]⟩, .slice none 0 0, .slice none 0 0, .string ⟨#[]⟩, .int .i64 0, .int .i64 0, .int .i64 0, .int .i64 0])
  have hb1 := (Below.refl w.heap.size w).alloc (Nat.le_refl _) (.cells #[.string ⟨#[]⟩, .slice none 0 0, .slice none 0 0, .string ⟨#[]⟩, .int .i64 0, .int .i64 0, .int .i64 0, .int .i64 0] 35)
  have HG1 := hid (HG.out _ hb1)
  have HB1 := hid hb1
  obtain ⟨r0, hr0⟩ : ∃ r0, r0 = w.heap.size := ⟨_, rfl⟩
  rw [← hr0] at HA0
  have hS1 : Hid (r0 < (w.alloc (.cells #[.string ⟨#[]⟩, .slice none 0 0, .slice none 0 0, .string ⟨#[]⟩, .int .i64 0, .int .i64 0, .int .i64 0, .int .i64 0] 35)).heap.size) := hid (by simp; omega)
  have HR0 := hid hr0
  generalize azWhole c L = H at *
  generalize (H + 31) / 32 = rs at *
  obtain ⟨st, hst⟩ : ∃ st, st = strOf T := ⟨_, rfl⟩
  rw [← hst]
  have HST := hid hst
  clear hst
  clear hX hLd hwd hwl hal0 hr hC hin hruns HG hb1 hal
  go_enter Tryz.func9, Tryz.ntmps9
  go_wp2_with fail
  rw [← hr0]
  clear hr0
  generalize w.alloc (.cells #[.string ⟨#[]⟩, .slice none 0 0, .slice none 0 0, .string ⟨#[]⟩, .int .i64 0, .int .i64 0, .int .i64 0, .int .i64 0] 35) = w1 at *
  refine HG1.out.mono ?_
  rintro e w2 ⟨q, g, wsM, rfl, hg, hM, hb2⟩
  have hql := hM.lt
  have hgl := hM.bits.lt
  have HM := hid hM
  have HB2 := hid (HB1.out.trans (hb2.mono HB1.out.size))
  have HA2 := hid (HA0.out.below hb2 hS1.out)
  have hr2 : r0 < w2.heap.size := Nat.lt_of_lt_of_le hS1.out hb2.size
  clear hM hb2 hg HG1 HA0 HB1 hS1
  have H3 := hid (newDecM w2)
  go_wp2_with fail
  refine H3.out.mono ?_
  rintro e w3 ⟨rfl, hw3⟩
  have HD3 := hid (show Arr w3 w2.heap.size 78 [.pointer none] from by rw [hw3]; exact Arr.of_new w2 78 #[.pointer none])
  have hs3 : w3.heap.size = w2.heap.size + 1 := by rw [hw3]; simp
  have HB3 := hid (show Below w2.heap.size w2 w3 from by rw [hw3]; exact (Below.refl _ _).alloc (Nat.le_refl _) _)
  obtain ⟨d, hd⟩ : ∃ d, d = w2.heap.size := ⟨_, rfl⟩
  rw [← hd] at HD3 hs3 HB3 hql hgl hr2
  rw [← hd]
  have HDD := hid hd
  have hd3 : d < w3.heap.size := by omega
  clear hw3 hd H3
  have H4 := hid (newDetM c nb L q w3)
  go_wp2_with fail
  refine H4.out.mono ?_
  rintro e w4 ⟨dd, de, rfl, hdd, hde, hb4, hl1, hl2⟩
  have H5 := hid (HDE.out w4 d dd de q g wsM (.pointer none) (HD3.out.below hb4 hd3) hdd hde hql hgl (by omega) (by omega) ((HM.out.below HB3.out hql).below hb4 (by omega)))
  have HB4 := hid (show Below d w2 w4 from HB3.out.trans (hb4.mono (by omega)))
  clear hdd hde hb4 HD3 HB3 HM HDE H4
  go_wp2_with fail
  refine H5.out.mono ?_
  rintro e w5 ⟨D, A5, n5, c5, nb5, W5, lv5, rfl, hres, hR5, hn5, hb5⟩
  rw [← HST.out] at hres
  have H6 := hid (decodedM D A5 n5 c5 nb5 st lv5 W5 w5 hn5 hres hR5)
  have HB5 := hid (show Below d w2 w5 from HB4.out.trans hb5)
  clear hres hR5 hb5 HB4 H5
  go_wp2_with fail
  refine H6.out.mono ?_
  rintro e w6 ⟨n4, n8, n6, n7, x3, A1, A2, m1, c1, m2, c2, rfl, hb6⟩
  have hds : d ≤ w5.heap.size := by rw [HDD.out]; exact HB5.out.size
  have hbb := HB5.out.trans (hb6.mono hds)
  have HA6 := hid (HA2.out.below hbb hr2)
  have HB6 := hid (HB2.out.trans (hbb.mono (by rw [HDD.out]; exact HB2.out.size)))
  have hgb : w.heap.size ≤ r0 := by rw [HR0.out]; exact Nat.le_refl _
  clear hb6 hbb H6 HB5 HA2 HB2 hds
  have d0 := HA6.out.cell? 0
  have f0 := HA6.out.frozen 0
  have d1 := HA6.out.cell? 1
  have f1 := HA6.out.frozen 1
  have d2 := HA6.out.cell? 2
  have f2 := HA6.out.frozen 2
  have d3 := HA6.out.cell? 3
  have f3 := HA6.out.frozen 3
  have d4 := HA6.out.cell? 4
  have f4 := HA6.out.frozen 4
  have d5 := HA6.out.cell? 5
  have f5 := HA6.out.frozen 5
  have d6 := HA6.out.cell? 6
  have f6 := HA6.out.frozen 6
  have d7 := HA6.out.cell? 7
  have f7 := HA6.out.frozen 7
  simp only [zer35, List.getElem?_cons_zero, List.getElem?_cons_succ] at d0 d1 d2 d3 d4 d5 d6 d7
  go_wp2_with fail
  have q0 := (HA6.out.set 0 (Value.string st)).cell? 0
  have q1 := ((HA6.out.set 0 (Value.string st)).set 1 (Value.slice A1 m1 c1)).cell? 1
  have q2 := (((HA6.out.set 0 (Value.string st)).set 1 (Value.slice A1 m1 c1)).set 2 (Value.slice A2 m2 c2)).cell? 2
  have q3 := ((((HA6.out.set 0 (Value.string st)).set 1 (Value.slice A1 m1 c1)).set 2 (Value.slice A2 m2 c2)).set 3 (Value.string x3)).cell? 3
  have q4 := (((((HA6.out.set 0 (Value.string st)).set 1 (Value.slice A1 m1 c1)).set 2 (Value.slice A2 m2 c2)).set 3 (Value.string x3)).set 4 (Value.int .i64 n4)).cell? 4
  have q5 := ((((((HA6.out.set 0 (Value.string st)).set 1 (Value.slice A1 m1 c1)).set 2 (Value.slice A2 m2 c2)).set 3 (Value.string x3)).set 4 (Value.int .i64 n4)).set 5 (Value.int .i64 n8)).cell? 5
  have q6 := (((((((HA6.out.set 0 (Value.string st)).set 1 (Value.slice A1 m1 c1)).set 2 (Value.slice A2 m2 c2)).set 3 (Value.string x3)).set 4 (Value.int .i64 n4)).set 5 (Value.int .i64 n8)).set 6 (Value.int .i64 n6)).cell? 6
  have q7 := ((((((((HA6.out.set 0 (Value.string st)).set 1 (Value.slice A1 m1 c1)).set 2 (Value.slice A2 m2 c2)).set 3 (Value.string x3)).set 4 (Value.int .i64 n4)).set 5 (Value.int .i64 n8)).set 6 (Value.int .i64 n6)).set 7 (Value.int .i64 n7)).cell? 7
  simp only [zer35, List.set_cons_zero, List.set_cons_succ, List.getElem?_cons_zero, List.getElem?_cons_succ] at q0 q1 q2 q3 q4 q5 q6 q7
  refine bodyPost_ret (v := .tuple #[.agg #[.string st, .slice A1 m1 c1, .slice A2 m2 c2, .string x3, .int .i64 n4, .int .i64 n8, .int .i64 n6, .int .i64 n7], .bool true]) (by simp [results, Tryz.results9, go_sem, q0, q1, q2, q3, q4, q5, q6, q7]) rfl ?_
  exact ⟨n4, n8, n6, n7, x3, A1, A2, _, _, _, _, rfl, ((((((((HB6.out.setCell hgb _).setCell hgb _).setCell hgb _).setCell hgb _).setCell hgb _).setCell hgb _).setCell hgb _).setCell hgb _)⟩
end Go.Proofs.YtliephokeafllaaGreatDoor
