/- The reader's segment in the mode Base 256. -/
import Derived.Test.YtfmjkflihnfneaaDoorDnQ
namespace Go.Proofs.YtfmjkflihnfneaaDoor
open Go.RowKit
set_option linter.unusedVariables false
set_option linter.unusedSimpArgs false

theorem info28 : (Tryd.prog.info? 28).map (fun i => (i.zero, i.size, i.bytes)) = some (some (.slice none 0 0), 1, 24) := by kernel_rfl
/-- What the Base 256 segment's reader leaves: the new part lies in block g, and of the blocks that were only the source's and those of the two slices have turned. -/
def SegOutB (W : List Nat) (A : Option Addr) (c q B p' : Nat) (o' s : List Nat) (v b : Value) (xs : List Value) (w : World) (e : Ending) (w' : World) : Prop :=
  ∃ v' b' g, e = .returned (.tuple #[v', b', .nilIface]) ∧ Src w' q A W.length c (8 * p') ∧ Own w' B 5 v' (u8s o') ∧ Own w' B 28 b' (xs ++ [.slice (some ⟨g, 0, none⟩) s.length s.length]) ∧ (v'.ownBlock = none ∨ v'.ownBlock ≠ b'.ownBlock) ∧ Kp B q w w' ∧
    Arr w' g 5 (u8s s) ∧ w.heap.size ≤ g ∧ v'.ownBlock ≠ some g ∧ b'.ownBlock ≠ some g ∧
    ∀ k, k < w.heap.size → k ≠ q → v.ownBlock ≠ some k → b.ownBlock ≠ some k → w'.heap[k]? = w.heap[k]? ∧ v'.ownBlock ≠ some k ∧ b'.ownBlock ≠ some k
theorem gSetN {w w' : World} {q g : Nat} (h : w.grownBy w' (some q)) (hg : w.heap.size ≤ g) (k : Nat) (v : Value) : w.grownBy (w'.setCell ⟨g, k, none⟩ v) (some q) :=
  ⟨h.os, h.tape, h.output, by simpa [World.setCell] using h.size, fun j hj hne => (Below.heap_setCell _ _ _ _ (by intro e; simp at e; omega)).trans (h.block j hj hne)⟩
theorem Src.far_ {w : World} {q : Nat} {A : Option Addr} {n c p g : Nat} (h : Src w q A n c p) (hne : q ≠ g) (k : Nat) (v : Value) : Src (w.setCell ⟨g, k, none⟩ v) q A n c p := Arr.far h hne v
theorem take_set (s : List Nat) (n i : Nat) (h : i < s.length) (hn : n = s.length) : (s.take i ++ List.replicate (n - i) 0).set i (s.getD i 0) = s.take (i + 1) ++ List.replicate (n - (i + 1)) 0 := by
  subst hn
  apply List.ext_getElem
  · simp; omega
  · intro k h1 h2
    simp at h1
    rw [List.getElem_set]
    by_cases hk : i = k
    · subst hk
      rw [if_pos rfl, List.getElem_append_left (by simp; omega), List.getElem_take, List.getD, List.getElem?_eq_getElem h]
      rfl
    · rw [if_neg hk]
      by_cases hlt : k < i
      · rw [List.getElem_append_left (by simp; omega), List.getElem_append_left (by simp; omega), List.getElem_take, List.getElem_take]
      · rw [List.getElem_append_right (by simp; omega), List.getElem_append_right (by simp; omega), List.getElem_replicate, List.getElem_replicate]
theorem apart_ab {va ba b5 v6 : Option Nat} {S0 S1 S2 : Nat} (hap : va = none ∨ va ≠ ba) (hvl : ∀ k, va = some k → k < S0) (hbl : ∀ k, ba = some k → k < S0) (h5 : b5 = ba ∨ b5 = some S1) (h6 : v6 = va ∨ v6 = some S2)
    (h01 : S0 ≤ S1) (h02 : S0 ≤ S2) (h12 : b5 = some S1 → S1 < S2) : (b5 = none ∨ b5 ≠ va) ∧ (v6 = none ∨ v6 ≠ b5) := by
  constructor
  · rcases h5 with h5 | h5
    · rcases hap with h | h
      · rw [h]; cases b5 <;> simp
      · rw [h5]; exact .inr (fun e => h e.symm)
    · rw [h5]; exact .inr (fun e => by have := hvl S1 e.symm; omega)
  · rcases h6 with h6 | h6
    · rw [h6]
      rcases h5 with h5 | h5
      · rw [h5]; exact hap
      · rw [h5]; exact .inr (fun e => by have := hvl S1 e; omega)
    · right
      rw [h6]
      rcases h5 with h5 | h5
      · rw [h5]; intro e; have := hbl S2 e.symm; omega
      · intro e; rw [h5] at e; injection e with e; have := h12 h5; omega
theorem mix_at (W : List Nat) (p : Nat) (L : List Nat) (hp : 1 ≤ p) (hA : AtW W p (mixTo L (p - 1))) (i : Nat) (hi : i < L.length) : p + i < W.length ∧ W.getD (p + i) 0 = mix (L.getD i 0) (p + 1 + i) := by
  obtain ⟨h1, h2⟩ := hA
  have hl : (mixTo L (p - 1)).length = L.length := by simp [mixTo]
  rw [hl] at h1 h2
  refine ⟨by omega, ?_⟩
  rw [h2 i hi, mixTo, List.getD, List.getElem?_map, List.getElem?_range hi]
  simp only [Option.map_some, Option.getD_some]
  rw [show p - 1 + 2 + i = p + 1 + i from by omega]

set_option maxRecDepth 20000 in
set_option maxHeartbeats 8000000 in
theorem segB (W : List Nat) (A : Option Addr) (c q B p : Nat) (v b : Value) (o s : List Nat) (xs : List Value) (w : World) (hC : Rdr W A c q B w) (hS : Src w q A W.length c (8 * p)) (hO : Own w B 5 v (u8s o)) (hOb : Own w B 28 b xs)
    (hap : v.ownBlock = none ∨ v.ownBlock ≠ b.ownBlock) (hxl : xs.length ≤ 90000)
    (h1 : 1 ≤ s.length) (h16 : s.length ≤ 1600) (h256 : ∀ c ∈ s, c < 256) (hA : AtW W p (mixTo (lenW s.length ++ s) (p - 1))) (hp1 : 1 ≤ p) (hol : o.length ≤ 90000) :
    Calls Tryd.prog 39 #[.pointer (some ⟨q, 0, none⟩), v, b] w (SegOutB W A c q B (p + (lenW s.length).length + s.length) (o ++ s) s v b xs w) := by
  obtain ⟨i5, gi, gz0, gz1, gz2⟩ := info_of info5
  obtain ⟨i28, si, sz0, sz1, sz2⟩ := info_of info28
  obtain ⟨N, hN⟩ : ∃ N, N = W.length := ⟨_, rfl⟩
  rw [← hN] at hS
  have HN := hid hN
  have hNl : N ≤ 4000 := by rw [hN]; exact hC.n
  have hqb := hC.qb
  have hbw := hC.bs
  have HC := hid hC
  have HS := hid hS
  have HO := hid hO
  have HOB := hid hOb
  have HAP := hid hap
  obtain ⟨n, hn⟩ : ∃ n, n = s.length := ⟨_, rfl⟩
  rw [← hn] at h1 h16 hA ⊢
  have HNS := hid hn
  have HAT := hid (mix_at W p (lenW n ++ s) hp1 hA)
  have H256 := hid h256
  have HRD := hid (show Rd w A N (u8s W) from by rw [hN]; exact hC.rd)
  have HAB := hid (fun a (ha : A = some a) => show a.block ≠ q from (hC.ab a ha).2)
  -- the length's words
  obtain ⟨K, hK⟩ : ∃ K, K = (lenW n).length := ⟨_, rfl⟩
  have hlen : (lenW n ++ s).length = K + n := by rw [List.length_append, hK, hn]
  have hpK : p + K + n ≤ N := by
    have := (HAT.out (K + n - 1) (by omega)).1
    omega
  have HWS := hid (fun i (hi : i < n) => show W.getD (p + K + i) 0 = mix (s.getD i 0) (p + K + 1 + i) from by
    have h := (HAT.out (K + i) (by omega)).2
    rw [show p + (K + i) = p + K + i from by omega, show p + 1 + (K + i) = p + K + 1 + i from by omega] at h
    rw [h]
    congr 1
    rw [List.getD, List.getD, List.getElem?_append_right (by omega), hK, show (lenW n).length + i - (lenW n).length = i from by omega])
  have HSL := hid (fun i => getD_lt s h256 i)
  have HKK := hid hK
  rw [← hK]
  have HR1 := hid (read8M q A N c p W w hS hNl HRD.out hC.lt HAB.out (by omega))
  have HBO := hid (byteOff q A N c (8 * p) w hS)
  rw [show 8 * p / 8 = p from by omega] at HBO
  obtain ⟨d, hd⟩ : ∃ d, d = (lenW n ++ s).getD 0 0 := ⟨_, rfl⟩
  have hcase : (n ≤ 249 ∧ K = 1 ∧ d = n) ∨ (249 < n ∧ K = 2 ∧ d = n / 250 + 249 ∧ W.getD (p + 1) 0 = mix (n % 250) (p + 2)) := by
    by_cases h : 249 < n
    · have e : lenW n = [n / 250 + 249, n % 250] := if_pos h
      refine .inr ⟨h, by rw [hK, e]; rfl, by rw [hd, e]; rfl, ?_⟩
      have := (HAT.out 1 (by omega)).2
      rw [e] at this
      exact this
    · have e : lenW n = [n] := if_neg h
      exact .inl ⟨by omega, by rw [hK, e]; rfl, by rw [hd, e]; rfl⟩
  have hd256 : d < 256 := by omega
  have HUN := hid (fun V => show Calls Tryd.prog 58 #[.int .i64 (mix d (p + 1) : Nat), .int .i64 (1 + (p : Int))] V (fun e w' => e = .returned (.int .i64 (d : Nat)) ∧ V = w') from by rw [show (1 : Int) + (p : Int) = ((p + 1 : Nat) : Int) from by omega]; exact unrandM d (p + 1) hd256 (by omega) V)
  have hm0 := (HAT.out 0 (by omega)).2
  rw [← hd, Nat.add_zero, Nat.add_zero] at hm0
  rw [← hm0] at HUN
  have HCASE := hid hcase
  clear HAT hd hcase hm0 hlen hK hA hS hO hOb hap hC h256 hN hn hd256
  generalize W.getD p 0 = b0 at *
  go_enter Tryd.func39, Tryd.ntmps39
  go_upto_if 34 with (first | (go_at_call 57; ((with_reducible refine HBO.out.mono ?_); rintro e w' ⟨rfl, rfl⟩)) | (go_at_call 47; ((with_reducible refine HR1.out.mono ?_); rintro e w9 ⟨rfl, hS9, hg9⟩)) | (go_at_call 58; ((with_reducible refine (HUN.out _).mono ?_); rintro e w' ⟨rfl, rfl⟩)))
  go_cut [9, 13] from 33 (fun pv cv wx => pv = .int .i64 (p + 1 + K : Nat) ∧ cv = .int .i64 (n : Nat) ∧ Hid (Src wx q A N c (8 * (p + K))) ∧ Hid (w.grownBy wx (some q)))
  case first =>
    have HS9 := hid hS9
    have HG9 := hid hg9
    clear hS9 hg9
    rcases HCASE.out with ⟨c1, c2, c3⟩ | ⟨c1, c2, c3, c4⟩
    · subst c2 c3
      have e0 : ((d : Int) == 0) = false := by simp; omega
      have e1 : (d : Int) < 250 := by omega
      go_wp2_with fail
      go_meet
      case rel => exact ⟨by go_num, rfl, HS9, HG9⟩
    · subst c2
      have e0 : ((d : Int) == 0) = false := by simp; omega
      have e1 : ¬ (d : Int) < 250 := by omega
      have HR2 := hid (read8M q A N c (p + 1) W w9 HS9.out hNl (HRD.out.grown HG9.out (fun a ha e => HAB.out a ha (by injection e))) HC.out.lt HAB.out (by omega))
      have HUN2 := hid (fun V => show Calls Tryd.prog 58 #[.int .i64 (mix (n % 250) (p + 2) : Nat), .int .i64 (1 + (p : Int) + 1)] V (fun e w' => e = .returned (.int .i64 (n % 250 : Nat)) ∧ V = w') from by rw [show (1 : Int) + (p : Int) + 1 = ((p + 2 : Nat) : Int) from by omega]; exact unrandM (n % 250) (p + 2) (by omega) (by omega) V)
      rw [← c4] at HUN2
      generalize W.getD (p + 1) 0 = b1 at *
      obtain ⟨m, hm⟩ : ∃ m, m = n % 250 := ⟨_, rfl⟩
      rw [← hm] at HUN2
      have e2 : 250 * ((d : Int) - 249) + (m : Int) = (n : Nat) := by omega
      clear c4 hm c3
      go_wp2_with (first | (go_at_call 47; ((with_reducible refine HR2.out.mono ?_); rintro e w8 ⟨rfl, hS8, hg8⟩)) | (go_at_call 58; ((with_reducible refine (HUN2.out _).mono ?_); rintro e w' ⟨rfl, rfl⟩)))
      go_meet
      case rel => exact ⟨by go_num, rfl, hid hS8, hid (HG9.out.trans hg8)⟩
  case rest =>
    obtain ⟨rfl, rfl, HS1, HG1⟩ := hcut
    clear hS9 hg9 HUN HBO HR1 HCASE HS
    have hmk := fun V => run_make (P := Tryd.prog) V 28 5 i5 (.int .u8 0) Tryd.underlying28 gi gz0 .i64 .i64 (n : Int) (n : Int) (by omega) (by omega) (by rw [gz2]; omega) (by omega)
    simp only [gz1] at hmk
    obtain ⟨g, hg⟩ : ∃ g, g = wc.heap.size := ⟨_, rfl⟩
    have HX0 := hid (show Arr (wc.alloc (.cells (madeCells #[.int .u8 0] n) 5)) g 5 (u8s (s.take 0 ++ List.replicate (n - 0) 0)) from by
      have h := Arr.made wc 5 (.int .u8 0) n
      rw [u8s_rep] at h
      rw [hg]; exact h)
    have HS2 := hid (HS1.out.alloc (.cells (madeCells #[.int .u8 0] n) 5))
    have HG2 := hid (gAlloc HG1.out (.cells (madeCells #[.int .u8 0] n) 5))
    have hgs0 : w.heap.size ≤ g := by rw [hg]; exact HG1.out.size
    have hgs2 : g < (wc.alloc (.cells (madeCells #[.int .u8 0] n) 5)).heap.size := by rw [hg]; simp
    have hqg : q ≠ g := by omega
    clear HS1 HG1
    go_wp2_with fail
    rw [← hg]
    have HGE := hid hg
    clear hg
    go_loopg [9, 17] n (fun gk pv iv wr => ∃ (i : Nat), i ≤ n ∧ gk = n - i ∧ pv = .int .i64 (p + 1 + K + i : Nat) ∧ iv = .int .i64 (i : Nat) ∧ Hid (Src wr q A N c (8 * (p + K + i))) ∧ Hid (Arr wr g 5 (u8s (s.take i ++ List.replicate (n - i) 0))) ∧ Hid (w.grownBy wr (some q)) ∧ g < wr.heap.size)
    case atStart => exact ⟨0, by omega, by omega, rfl, rfl, HS2, HX0, HG2, hgs2⟩
    case round =>
      clear HS2 HX0 HG2 hgs2
      obtain ⟨i, hi1, rfl, rfl, rfl, HS, HX, HG, hgs⟩ := hrel
      have hbr := Nat.le_trans hbw HG.out.size
      by_cases hlt : i < n
      case pos =>
        have hlt' : (i : Int) < (n : Int) := by omega
        have HRDr := hid (HRD.out.grown HG.out (fun a ha e => HAB.out a ha (by injection e)))
        have hws := HWS.out i hlt
        have hz := HSL.out i
        have HTS := hid (take_set s n i (by rw [← HNS.out]; exact hlt) HNS.out)
        have HX2 := hid (show (u8s (s.take i ++ List.replicate (n - i) 0)).length = n from by
          rw [u8s_len, List.length_append, List.length_replicate, List.length_take, ← HNS.out]; omega)
        have HUN := hid (fun V => show Calls Tryd.prog 58 #[.int .i64 (mix (s.getD i 0) (p + K + 1 + i) : Nat), .int .i64 ((p : Int) + 1 + (K : Int) + (i : Int))] V (fun e w' => e = .returned (.int .i64 (s.getD i 0 : Nat)) ∧ V = w') from by rw [show (p : Int) + 1 + (K : Int) + (i : Int) = ((p + K + 1 + i : Nat) : Int) from by omega]; exact unrandM (s.getD i 0) (p + K + 1 + i) hz (by omega) V)
        rw [← hws] at HUN
        have HR := hid (fun V (hS : Src V q A N c (8 * (p + K + i))) (hR : Rd V A N (u8s W)) => read8M q A N c (p + K + i) W V hS hNl hR HC.out.lt HAB.out (by omega))
        have HAV := hid (available q A N c (8 * (p + K + i)) wr HS.out (by omega) (by omega))
        obtain ⟨D, hD⟩ : ∃ D, D = 8 * N - 8 * (p + K + i) := ⟨_, rfl⟩
        have hD8 : ¬ (D : Int) < 8 := by omega
        rw [← hD] at HAV
        generalize W.getD (p + K + i) 0 = bz at *
        generalize s.getD i 0 = z at *
        have e1 : IntKind.u8.wrap (z : Int) = (z : Nat) := by rw [u8wrap]; omega
        have hgq : some g ≠ some q := fun e => hqg (by injection e with e; exact e.symm)
        have HGQ := hid hgq
        obtain ⟨Z, hZ⟩ : ∃ Z, Z = u8s (s.take i ++ List.replicate (n - i) 0) := ⟨_, rfl⟩
        rw [← hZ] at HX HX2
        have HZ := hid hZ
        have HIL := hid hlt
        clear hws hD hgq hZ
        go_wp2_with (first | (go_at_call 33; ((with_reducible refine HAV.out.mono ?_); rintro e w1 ⟨rfl, k1, rfl⟩)) | (go_at_call 47; ((with_reducible refine (HR.out _ (HS.out.drewN _) (HRDr.out.drewN _)).mono ?_); rintro e w9 ⟨rfl, hS9, hg9⟩; have HX9 := hid ((HX.out.drewN k1).grown hg9 HGQ.out); have c0 := HX9.out.cell i (by rw [HX2.out]; exact HIL.out); have f0 := HX9.out.frozen i)) | (go_at_call 58; ((with_reducible refine (HUN.out _).mono ?_); rintro e w' ⟨rfl, rfl⟩)))
        go_roundg (n - (i + 1))
        case measure => omega
        case rel => exact ⟨i + 1, by omega, rfl, by go_num, by go_num, hid (by have h := hS9.far_ (g := g) (by omega) i (.int .u8 (z : Nat)); exact h), hid (by have h := HX9.out.set i (.int .u8 (z : Nat)); rw [HZ.out, u8s_set, HTS.out] at h; exact h), hid (gSetN (((gDrew HG.out k1)).trans hg9) hgs0 i _), by simpa [World.setCell] using Nat.lt_of_lt_of_le hgs hg9.size⟩
      case neg =>
        obtain rfl : i = n := by omega
        have hlt' : ¬ (i : Int) < (i : Int) := by omega
        have hX9 := HX.out
        rw [Nat.sub_self, show List.replicate 0 0 = ([] : List Nat) from rfl, List.append_nil, HNS.out, List.take_length] at hX9
        have HX9 := hid hX9
        have HS9 := hid HS.out
        have HO9 := hid (HO.out.src HG.out hqb)
        have HOB9 := hid (HOB.out.src HG.out hqb)
        have HK9 := hid ((Kp.refl B q w).src hbw HG.out)
        have hvg : ∀ k, v.ownBlock = some k → k < w.heap.size := fun k hk => (HO.out.lt k hk).2
        have hbg : ∀ k, b.ownBlock = some k → k < w.heap.size := fun k hk => (HOB.out.lt k hk).2
        have HVG := hid hvg
        have HBG := hid hbg
        have hgr := HG.out.size
        have ms : s.length = i := HNS.out.symm
        have m1 := hid (show xs.length + 1 ≤ maxLen by simp [maxLen]; omega)
        have m2 := hid (show (xs.length + 1) * 24 ≤ 140737488355328 by omega)
        have m3 := hid (show (u8s o).length + (u8s s).length ≤ maxLen by rw [u8s_len, u8s_len]; simp [maxLen]; omega)
        have m4 := hid (show ((u8s o).length + (u8s s).length) * 1 ≤ 140737488355328 by rw [u8s_len, u8s_len]; omega)
        have HSLN := hid (show i = (u8s s).length from by rw [u8s_len]; exact HNS.out)
        have HBR := hid hbr
        have HGS0 := hid hgs0
        have HGSR := hid hgs
        have HGQ2 := hid HG.out
        have HQB := hid hqb
        clear hX9 hvg hbg ms HX HS HG
        go_wp2_with (first
          | (at_builtin; refine wpList_app _ rfl _ _ 35 rfl B 28 i28 _ 24 Tryd.underlying35 si sz0 sz1 sz2 rfl b xs rfl (HOB9.out.alloc _) _ 1 1 [.slice (some ⟨g, 0, none⟩) i i] rfl (Rd.one' _ _ _ _ (by first | rfl | (simp; done))) (by intro u hu; rw [List.mem_singleton.1 hu]; rfl) m1.out m2.out (Nat.le_trans HBR.out (by simp <;> omega)) ?_; intro b5 w5 hOb5 hg5 hown5; have HX5 := hid ((HX9.out.alloc (.cells #[.slice (some ⟨g, 0, none⟩) i i] 28)).grown hg5 (fun e => by have := HBG.out g e.symm; have := HGS0.out; omega)); have hR5 : Rd w5 (some ⟨g, 0, none⟩) i (u8s s) := HSLN.out ▸ Rd.of_arr HX5.out; have HO5 := hid ((HO9.out.alloc (.cells #[.slice (some ⟨g, 0, none⟩) i i] 28)).keep hg5 HAP.out))
          | (at_builtin; refine wpList_app _ rfl _ _ 28 rfl B 5 i5 _ 1 Tryd.underlying28 gi gz0 gz1 gz2 rfl v (u8s o) rfl HO5.out _ i i (u8s s) rfl hR5 (u8s_one _) (HSLN.out ▸ m3.out) (HSLN.out ▸ m4.out) (Nat.le_trans HBR.out (Nat.le_trans (by simp <;> omega) hg5.size)) ?_))
        intro v6 w6 hO6 hg6 hown6
        have hS0 : w.heap.size ≤ (wr.alloc (.cells #[.slice (some ⟨g, 0, none⟩) i i] 28)).heap.size := by simp; omega
        obtain ⟨ha1, ha2⟩ := apart_ab (S0 := w.heap.size) (S1 := (wr.alloc (.cells #[.slice (some ⟨g, 0, none⟩) i i] 28)).heap.size) (S2 := w5.heap.size) HAP.out HVG.out HBG.out (by simpa using hown5) hown6 hS0 (Nat.le_trans hS0 hg5.size) (fun e => (hOb5.lt _ e).2)
        have HO6 := hid (show Own w6 B 5 v6 (u8s (o ++ s)) from by unfold u8s at hO6 ⊢; rw [List.map_append]; exact hO6)
        have HOB6 := hid (hOb5.keep hg6 ha1)
        have HS6 := hid (((HS9.out.alloc (.cells #[.slice (some ⟨g, 0, none⟩) i i] 28)).own hg5 (fun e => by have := (HOB9.out.lt q e.symm).1; have := HQB.out; omega)).own hg6 (fun e => by have := (HO9.out.lt q e.symm).1; have := HQB.out; omega))
        have HK6 := hid (((HK9.out.alloc HBR.out (.cells #[.slice (some ⟨g, 0, none⟩) i i] 28)).own (Nat.le_trans HBR.out (by simp <;> omega)) hg5 (fun j hj => (HOB9.out.lt j hj).1)).own (Nat.le_trans HBR.out (Nat.le_trans (by simp <;> omega) hg5.size)) hg6 (fun j hj => (HO9.out.lt j hj).1))
        have HA2 := hid ha2
        have HX6 := hid (HX5.out.grown hg6 (fun e => by have := HVG.out g e.symm; have := HGS0.out; omega))
        have hv6 : v6.ownBlock ≠ some g := fun e => by
          rcases hown6 with h | h
          · rw [h] at e; have := HVG.out g e; have := HGS0.out; omega
          · rw [h] at e; injection e with e; have := HX5.out.lt; omega
        have hb6 : b5.ownBlock ≠ some g := fun e => by
          rcases hown5 with h | h
          · rw [h] at e; have := HBG.out g e; have := HGS0.out; omega
          · rw [h] at e; injection e with e; have := HGSR.out; simp at e; omega
        have hfr : ∀ k, k < w.heap.size → k ≠ q → v.ownBlock ≠ some k → b.ownBlock ≠ some k → w6.heap[k]? = w.heap[k]? ∧ v6.ownBlock ≠ some k ∧ b5.ownBlock ≠ some k := fun k h1 h2 h3 h4 => by
          have hk1 : k < wr.heap.size := Nat.lt_of_lt_of_le h1 hgr
          refine ⟨?_, fun e => ?_, fun e => ?_⟩
          · rw [hg6.block k (Nat.lt_of_lt_of_le (by simp; omega) hg5.size) (fun e => h3 e.symm), hg5.block k (by simp; omega) (fun e => h4 e.symm), Below.heap_alloc _ _ _ hk1]
            exact HGQ2.out.block k h1 (fun e => h2 (by injection e))
          · rcases hown6 with h | h
            · exact h3 (h ▸ e)
            · rw [h] at e; injection e with e; have := hg5.size; simp at this; omega
          · rcases hown5 with h | h
            · exact h4 (h ▸ e)
            · rw [h] at e; injection e with e; simp at e; omega
        have HV6 := hid hv6
        have HB6 := hid hb6
        have HFR := hid hfr
        clear hv6 hb6 hfr HGQ2
        clear hO6 hg6 hown6 hOb5 hg5 hown5 HX5 hR5 HO5 HX9 HS9 HO9 HOB9 HK9 ha1 ha2
        go_wp2_with fail
        go_ret3
        exact ⟨v6, b5, g, rfl, by rw [← HN.out]; exact HS6.out, HO6.out, by rw [← HNS.out]; exact HOB6.out, HA2.out, HK6.out, HX6.out, HGS0.out, HV6.out, HB6.out, HFR.out⟩
end Go.Proofs.YtfmjkflihnfneaaDoor
