/- QR codes: the reader of byte segments. -/
import Derived.Test.YtpffffhgmhpkiaaSpC
namespace Go.Proofs.Ytpffffhgmhpkiaa
open Go.RowKit
set_option linter.unusedVariables false
set_option linter.unusedSimpArgs false

theorem info22 : (Try.prog.info? 22).map (fun i => (i.zero, i.size, i.bytes)) = some (some (.slice none 0 0), 1, 24) := by kernel_rfl
theorem Fr.set0 {q g : Nat} {v : Value} {w w' : World} (h : Fr q v w v w') (hv : v.ownBlock = some g) (i : Nat) (x : Value) : Fr q v w v (w'.setCell ⟨g, i, none⟩ x) :=
  ⟨by rw [World.size_setCell]; exact h.1, fun b h1 h2 h3 => ⟨(Below.heap_setCell w' _ x b (by intro e; exact h3 (by rw [hv]; simpa using e.symm))).trans (h.2 b h1 h2 h3).1, h3⟩⟩
theorem Kp.set0 {B q g : Nat} {w w' : World} (h : Kp B q w w') (hg : B ≤ g) (i : Nat) (x : Value) : Kp B q w (w'.setCell ⟨g, i, none⟩ x) :=
  h.trans ⟨rfl, rfl, rfl, by rw [World.size_setCell]; exact Nat.le_refl _, fun b h1 h2 => Below.heap_setCell w' _ x b (by intro e; have : b = g := e; omega)⟩
theorem Own.fr {q B : Nat} {e : TypeId} {v v' bv : Value} {w w' : World} {xs : List Value} (h : Own w B e bv xs) (hf : Fr q v w v' w') (hs : ∀ g, bv.ownBlock = some g → g ≠ q ∧ v.ownBlock ≠ some g) : Own w' B e bv xs := by
  have hl := h.lt
  refine ⟨h.1, ?_⟩
  rcases h.2 with h2 | ⟨g, cap, cur, hv, hg, hh, r⟩
  · exact .inl h2
  · have hb : bv.ownBlock = some g := by rw [hv]; rfl
    exact .inr ⟨g, cap, cur, hv, hg, by rw [(hf.2 g (hl g hb).2 (hs g hb).1 (hs g hb).2).1]; exact hh, r⟩
theorem Arr.fr {q g : Nat} {t : TypeId} {v v' : Value} {w w' : World} {l : List Value} (h : Arr w g t l) (hf : Fr q v w v' w') (hq : g ≠ q) (hv : v.ownBlock ≠ some g) : Arr w' g t l :=
  (hf.2 g h.lt hq hv).1.trans h
/-- The segments of bytes that have been read: a list of slices, each a block of its own. -/
def SegsIn (w : World) (B q : Nat) (ov bv : Value) (xs : List Value) (bl : List (List Nat)) : Prop :=
  xs.length = bl.length ∧ ∀ i (h : i < bl.length), ∃ g, xs[i]? = some (.slice (some ⟨g, 0, none⟩) bl[i].length bl[i].length) ∧ Arr w g 5 (u8s bl[i]) ∧ g ≠ q ∧ ov.ownBlock ≠ some g ∧ bv.ownBlock ≠ some g ∧ B ≤ g
/-- The state of the reader. -/
structure DecAt (W : List Nat) (A : Option Addr) (c q B p : Nat) (o : List Nat) (bl : List (List Nat)) (w0 : World) (ov bv : Value) (w : World) : Prop where
  src : Src w q A W.length c p
  own : Own w B 5 ov (u8s o)
  segs : ∃ xs, Own w B 22 bv xs ∧ SegsIn w B q ov bv xs bl
  sep : ∀ g, bv.ownBlock = some g → ov.ownBlock ≠ some g
  kp : Kp B q w0 w
section
variable {W : List Nat} {A : Option Addr} {c q B p : Nat} {o : List Nat} {bl : List (List Nat)} {w0 w : World} {ov bv : Value}
theorem DecAt.drewN (h : DecAt W A c q B p o bl w0 ov bv w) (k : Nat) : DecAt W A c q B p o bl w0 ov bv (w.drewN k) := by
  obtain ⟨xs, h1, h2⟩ := h.segs
  exact ⟨h.src.drewN k, h.own.drewN k, ⟨xs, h1.drewN k, h2⟩, h.sep, h.kp.drewN k⟩
/-- Only the source has turned. -/
theorem DecAt.read (h : DecAt W A c q B p o bl w0 ov bv w) (hC : Rdr W A c q B w) {w' : World} {p' : Nat} (hS : Src w' q A W.length c p') (hg : w.grownBy w' (some q)) : DecAt W A c q B p' o bl w0 ov bv w' := by
  obtain ⟨xs, h1, h2, h3⟩ := h.segs
  exact ⟨hS, h.own.src hg hC.qb, ⟨xs, h1.src hg hC.qb, h2, fun i hi => by
    obtain ⟨g, a1, a2, a3, a4, a5, a6⟩ := h3 i hi
    exact ⟨g, a1, a2.grown hg (fun e => a3 (by injection e)), a3, a4, a5, a6⟩⟩, h.sep, h.kp.src hC.bs hg⟩
/-- A segment has been said onto the text. -/
theorem DecAt.seg (h : DecAt W A c q B p o bl w0 ov bv w) (hC : Rdr W A c q B w) {p' : Nat} {o' : List Nat} {v' : Value} {w' : World} (hS : Src w' q A W.length c p') (hO : Own w' B 5 v' (u8s o')) (hK : Kp B q w w') (hF : Fr q ov w v' w') :
    DecAt W A c q B p' o' bl w0 v' bv w' := by
  obtain ⟨xs, h1, h2, h3⟩ := h.segs
  refine ⟨hS, hO, ⟨xs, h1.fr hF (fun g hg => ⟨by have := (h1.lt g hg).1; have := hC.qb; omega, h.sep g hg⟩), h2, fun i hi => ?_⟩, fun g hg => ?_, h.kp.trans hK⟩
  · obtain ⟨g, a1, a2, a3, a4, a5, a6⟩ := h3 i hi
    exact ⟨g, a1, a2.fr hF a3 a4, a3, (hF.2 g a2.lt a3 a4).2, a5, a6⟩
  · exact (hF.2 g (h1.lt g hg).2 (by have := (h1.lt g hg).1; have := hC.qb; omega) (h.sep g hg)).2
end
theorem rat_byte {W : List Nat} : ∀ {s : List Nat} {p : Nat}, RAt W p (byteD s) → ∀ i, i < s.length → p + 8 * i + 8 ≤ 8 * W.length ∧ rdn W (p + 8 * i) 8 = s.getD i 0
  | [], _, _, i, hi => by simp at hi
  | x :: s, p, h, i, hi => by
    obtain ⟨h1, h2, h3⟩ := h
    cases i with
    | zero => exact ⟨by simpa using h1, by simpa using h2⟩
    | succ i =>
      obtain ⟨a, b⟩ := rat_byte (s := s) h3 i (by simpa using hi)
      rw [show p + 8 * (i + 1) = p + 8 + 8 * i by omega]
      exact ⟨a, by simpa using b⟩
theorem lenD_byte : ∀ s : List Nat, lenD (byteD s) = 8 * s.length
  | [] => rfl
  | x :: s => by
    have := lenD_byte s
    simp only [byteD, List.map_cons, lenD_cons, List.length_cons] at this ⊢
    omega
/-- The state behind a segment of bytes: two appends. -/
theorem dec_bytes {W : List Nat} {A : Option Addr} {c q B p p' : Nat} {o s : List Nat} {bl : List (List Nat)} {w0 w1 wr w5 w7 : World} {ov bv v5 b7 gv : Value} {O O2 : Obj} {xs : List Value} {k g0 : Nat}
    (h : DecAt W A c q B p o bl w0 ov bv w1) (hC : Rdr W A c q B w1) (hg0 : g0 = w1.heap.size) (hgv : gv.ownBlock = some g0) (hk : k = s.length)
    (hS : Src wr q A W.length c p') (hA : Arr wr g0 5 (u8s s)) (hF : Fr q gv (w1.alloc O) gv wr) (hK : Kp B q (w1.alloc O) wr) (hx : Own w1 B 22 bv xs) (hX : SegsIn w1 B q ov bv xs bl)
    (hO5 : Own w5 B 5 v5 (u8s (o ++ s))) (hg5 : wr.grownBy w5 ov.ownBlock) (ho5 : v5.ownBlock = ov.ownBlock ∨ v5.ownBlock = some wr.heap.size)
    (hB7 : Own w7 B 22 b7 (xs ++ [.slice (some ⟨g0, 0, none⟩) k k])) (hg7 : (w5.alloc O2).grownBy w7 bv.ownBlock) (ho7 : b7.ownBlock = bv.ownBlock ∨ b7.ownBlock = some (w5.alloc O2).heap.size) :
    DecAt W A c q B p' (o ++ s) (bl ++ [s]) w0 v5 b7 w7 := by
  have lo := h.own.lt
  have lb := hx.lt
  have hqb := hC.qb
  have hbs := hC.bs
  have s1 : (w1.alloc O).heap.size ≤ wr.heap.size := hF.1
  have s2 := hg5.size
  have s3 := hg7.size
  simp only [World.size_alloc] at s1 s3
  have hqo : ov.ownBlock ≠ some q := fun e => by have := (lo q e).1; omega
  have hqv : bv.ownBlock ≠ some q := fun e => by have := (lb q e).1; omega
  have v5n : ∀ g, g < wr.heap.size → ov.ownBlock ≠ some g → v5.ownBlock ≠ some g := fun g h1 h2 => by
    rcases ho5 with e | e
    · rw [e]; exact h2
    · rw [e]; intro h3; injection h3; omega
  have b7n : ∀ g, g < wr.heap.size → bv.ownBlock ≠ some g → b7.ownBlock ≠ some g := fun g h1 h2 => by
    rcases ho7 with e | e
    · rw [e]; exact h2
    · rw [e]; intro h3; injection h3 with h3; simp only [World.size_alloc] at h3; omega
  have g0o : ov.ownBlock ≠ some g0 := fun e => by have := (lo g0 e).2; omega
  have g0b : bv.ownBlock ≠ some g0 := fun e => by have := (lb g0 e).2; omega
  have hAr := hA.lt
  refine ⟨((hS.own hg5 (fun e => hqo e.symm)).alloc O2).own hg7 (fun e => hqv e.symm), ?_, ⟨xs ++ [.slice (some ⟨g0, 0, none⟩) k k], hB7, by simp [hX.1], fun i hi => ?_⟩, fun g hg => ?_, ?_⟩
  · refine (hO5.alloc O2).keep hg7 ?_
    rcases hb : bv.ownBlock with _ | g
    · rcases ho5 with e | e
      · cases hv : v5.ownBlock with
        | none => exact .inl rfl
        | some g => exact .inr (by simp)
      · exact .inr (by rw [e]; simp)
    · refine .inr (fun e => v5n g (by have := (lb g hb).2; omega) (h.sep g hb) (by rw [e]))
  · by_cases hlt : i < bl.length
    · obtain ⟨g, a1, a2, a3, a4, a5, a6⟩ := hX.2 i hlt
      have hgl := a2.lt
      have hA2 := ((((a2.alloc O).fr hF a3 (by rw [hgv]; intro e; injection e; omega)).grown hg5 (fun e => a4 e.symm)).alloc O2).grown hg7 (fun e => a5 e.symm)
      refine ⟨g, ?_, ?_, a3, v5n g (by omega) a4, b7n g (by omega) a5, a6⟩
      · rw [List.getElem?_append_left (by rw [hX.1]; exact hlt), List.getElem_append_left hlt]; exact a1
      · rw [List.getElem_append_left hlt]; exact hA2
    · obtain rfl : i = bl.length := by simp at hi; omega
      refine ⟨g0, ?_, ?_, by omega, v5n g0 (by omega) g0o, b7n g0 (by omega) g0b, by omega⟩
      · rw [List.getElem?_append_right (by rw [hX.1]; exact Nat.le_refl _), hX.1, Nat.sub_self]
        simp [hk]
      · rw [List.getElem_append_right (Nat.le_refl _)]
        simp only [Nat.sub_self, List.getElem_cons_zero]
        exact ((hA.grown hg5 (fun e => g0o e.symm)).alloc O2).grown hg7 (fun e => g0b e.symm)
  · rcases ho7 with e | e
    · rw [e] at hg
      exact v5n g (by have := (lb g hg).2; omega) (h.sep g hg)
    · rw [e] at hg
      injection hg with hg
      simp only [World.size_alloc] at hg
      intro h3
      have := (hO5.lt g h3).2
      omega
  · have k1 := (h.kp.alloc hbs O).trans hK
    have k2 := k1.own (by omega) hg5 (fun j hj => (lo j hj).1)
    have k3 := k2.alloc (by omega) O2
    exact k3.own (by simp; omega) hg7 (fun j hj => (lb j hj).1)
def ByteO (W : List Nat) (A : Option Addr) (c q B p' : Nat) (o' : List Nat) (bl' : List (List Nat)) (w0 : World) (e : Ending) (w' : World) : Prop :=
  ∃ v' b', e = .returned (.tuple #[v', b', .nilIface]) ∧ DecAt W A c q B p' o' bl' w0 v' b' w'

theorem results_tmp3 {fn : Func} {t u v : Tmp} (h : fn.results = #[.tmp t, .tmp u, .tmp v]) (tmps : Array Value) (P : Program) (w : World) :
    (results fn tmps).run P w = .ok (.tuple #[tmps.getD t undef, tmps.getD u undef, tmps.getD v undef]) w := by
  simp [results, h]
theorem u8s_app (a b : List Nat) : u8s (a ++ b) = u8s a ++ u8s b := by simp [u8s]
theorem take_set {s : List Nat} {k i : Nat} (hk : k = s.length) (hi : i < k) : (u8s (s.take i) ++ List.replicate (k - i) (Value.int .u8 0)).set i (.int .u8 (s.getD i 0 : Nat)) = u8s (s.take (i + 1)) ++ List.replicate (k - (i + 1)) (Value.int .u8 0) := by
  have hl : (u8s (s.take i)).length = i := by rw [u8s_len, List.length_take]; omega
  rw [List.set_append_right _ _ (by omega), hl, Nat.sub_self, show k - i = (k - (i + 1)) + 1 by omega, List.replicate_succ, List.set_cons_zero, List.take_add_one, u8s_app, List.append_assoc]
  rw [List.getElem?_eq_getElem (by omega), List.getD, List.getElem?_eq_getElem (by omega)]
  rfl
set_option maxRecDepth 20000 in
set_option maxHeartbeats 8000000 in
theorem byteSeg (W : List Nat) (A : Option Addr) (c q B p : Nat) (ov bv mp : Value) (s o : List Nat) (bl : List (List Nat)) (k : Nat) (w0 w : World) (hC : Rdr W A c q B w) (hD : DecAt W A c q B p o bl w0 ov bv w) (hT : RAt W p (byteD s)) (hp : p ≤ 8 * W.length) (hk : k = s.length) (hl : o.length + s.length ≤ 90000) (hkl : k ≤ 200) (hbl : bl.length ≤ 100) (hs : ∀ x ∈ s, x < 256) :
    Calls Try.prog 99 #[.pointer (some ⟨q, 0, none⟩), ov, .int .i64 k, .pointer none, bv, mp] w (ByteO W A c q B (p + lenD (byteD s)) (o ++ s) (bl ++ [s]) w0) := by
  obtain ⟨i5, gi, gz0, gz1, gz2⟩ := info_of info5
  obtain ⟨i22, yi, yz0, yz1, yz2⟩ := info_of info22
  have av := available q A W.length c p w hD.src hp hC.n
  obtain ⟨L, hL⟩ : ∃ L, L = 8 * W.length - p := ⟨_, rfl⟩
  rw [← hL] at av
  have hT2 := fun i hi => rat_byte hT i hi
  have hLk : 8 * k ≤ L := by
    rcases Nat.eq_zero_or_pos k with h0 | h0
    · omega
    · have := (hT2 (k - 1) (by omega)).1; omega
  have hLk' : ¬ (L : Int) < 8 * (k : Int) := by omega
  have hNl := hC.n
  have hL32 : L ≤ 32000 := by omega
  rw [lenD_byte, ← hk]
  have HT := hid hT2
  have HK := hid hk
  have HC := hid hC
  have HD := hid hD
  have HSS := hid hs
  have HLO := hid hl
  have hmk := fun W => run_make (P := Try.prog) W 22 5 i5 (.int .u8 0) Try.underlying22 gi gz0 .i64 .i64 (k : Int) (k : Int) (by omega) (by omega) (by rw [gz2]; omega) (by omega)
  simp only [gz1] at hmk
  clear hL hT hT2 hk hC hD hs hl
  go_enter Try.func99, Try.ntmps99
  go_wp2_with fail
  refine av.mono ?_
  rintro e w1 ⟨rfl, k1, rfl⟩
  have HD1 := hid (HD.out.drewN k1)
  have HC1 := hid (HC.out.kp ((Kp.refl B q w).drewN k1))
  generalize w.drewN k1 = w1 at *
  clear av HC HD
  go_wp2_with fail
  have HA1 := hid (Arr.made w1 5 (.int .u8 0) k)
  have HS1 := hid (HD1.out.src.alloc (.cells (madeCells #[.int .u8 0] k) 5))
  have HRD := hid (HC1.out.rd.alloc (.cells (madeCells #[.int .u8 0] k) 5))
  obtain ⟨O, hO⟩ : ∃ O, O = Obj.cells (madeCells #[.int .u8 0] k) 5 := ⟨_, rfl⟩
  rw [← hO] at HA1 HS1 HRD ⊢
  obtain ⟨g0, hg0⟩ : ∃ g0, g0 = w1.heap.size := ⟨_, rfl⟩
  rw [← hg0] at HA1 ⊢
  have HG0 := hid hg0
  obtain ⟨gv, hgv⟩ : ∃ gv, gv = Value.slice (some ⟨g0, 0, none⟩) k k := ⟨_, rfl⟩
  have HGV := hid (show gv.ownBlock = some g0 by rw [hgv]; rfl)
  have hBg : B ≤ g0 := by rw [hg0]; exact HC1.out.bs
  have hqb := HC1.out.qb
  clear hmk hO hg0 hgv
  have RM := hid (fun p2 V (hm3 : p2 + 8 ≤ 8 * W.length) (hS : Src V q A W.length c p2) (hR : Rd V A W.length (u8s W)) => show Calls Try.prog 91 #[.pointer (some ⟨q, 0, none⟩), .int .i64 8] V _ from readM q A W.length c p2 W 8 V hS HC1.out.n hR HC1.out.lt (fun a ha => (HC1.out.ab a ha).2) (by omega) (by omega) hm3)
  go_loopw [16] (fun iv wr => ∃ i : Nat, i ≤ k ∧ iv = .int .i64 (i : Nat) ∧ Hid (Src wr q A W.length c (p + 8 * i)) ∧ Hid (Arr wr g0 5 (u8s (s.take i) ++ List.replicate (k - i) (.int .u8 0))) ∧ Hid (Fr q gv (w1.alloc O) gv wr) ∧ Hid (Kp B q (w1.alloc O) wr)) (fun iv _ => k - (intOf iv).toNat)
  case atStart => exact ⟨0, by omega, rfl, HS1, hid (by simpa [u8s] using HA1.out), hid (Fr.refl _ _ _), hid (Kp.refl _ _ _)⟩
  case round =>
    clear HS1 HA1
    obtain ⟨i, hi, rfl, HS, HA, HF, HKp⟩ := hrel
    by_cases hlt : i < k
    · have hlt' : (i : Int) < (k : Int) := by omega
      obtain ⟨t1, t2⟩ := HT.out i (by rw [← HK.out]; exact hlt)
      have HRDr := hid (HKp.out.rd HRD.out HC1.out.ab)
      have rm := RM.out (p + 8 * i) wr t1 HS.out HRDr.out
      rw [t2] at rm
      have HX := hid (take_set HK.out hlt)
      have hxl : s.getD i 0 < 256 := HSS.out _ (by rw [List.getD, List.getElem?_eq_getElem (by rw [← HK.out]; exact hlt)]; exact List.getElem_mem _)
      generalize s.getD i 0 = x at *
      clear t1 t2
      go_wp2_with fail
      refine rm.mono ?_
      rintro e w3 ⟨rfl, hS3, hg3⟩
      have HA3 := hid (HA.out.grown hg3 (fun e => by injection e; omega))
      have HF3 := hid (HF.out.srcG hg3)
      have HK3 := hid (HKp.out.src (by have := HKp.out.size; simp at this; have := HC1.out.bs; omega) hg3)
      have HS3 := hid hS3
      obtain ⟨v0, hv0⟩ := HA3.out.has i (by rw [List.length_append, u8s_len, List.length_take, List.length_replicate, ← HK.out]; omega)
      have fz := HA3.out.frozen i
      clear hS3 hg3 rm HA HF HKp HS HRDr
      go_wp2_with fail
      go_roundw
      case rel =>
        have HA4 := hid (show Arr (w3.setCell ⟨g0, i, none⟩ (.int .u8 (x : Nat))) g0 5 _ from by have := HA3.out.set i (.int .u8 (x : Nat)); rwa [HX.out] at this)
        have HS4 := hid (show Src (w3.setCell ⟨g0, i, none⟩ (.int .u8 (x : Nat))) q A W.length c (p + 8 * (i + 1)) from by rw [show p + 8 * (i + 1) = p + 8 * i + 8 by omega]; exact Arr.far HS3.out (by simp; omega) _)
        first
        | exact ⟨i + 1, by omega, by go_num, HS4, HA4, hid (HF3.out.set0 HGV.out i _), hid (HK3.out.set0 hBg i _)⟩
        | ((repeat apply Exists.intro); exact ⟨⟨i + 1, by omega, rfl, HS4, HA4, hid (HF3.out.set0 HGV.out i _), hid (HK3.out.set0 hBg i _)⟩, rfl⟩)
      case measure => first | (simp [intOf]; done) | (simp [intOf]; omega)
    · obtain rfl : i = k := by omega
      have hlt' : ¬ (i : Int) < (i : Int) := by omega
      have hsi : s.take i = s := List.take_of_length_le (by rw [← HK.out]; exact Nat.le_refl _)
      have HA2 := hid (show Arr wr g0 5 (u8s s) from by have := HA.out; rwa [hsi, Nat.sub_self, List.replicate_zero, List.append_nil] at this)
      have HO := hid (HD1.out.own.alloc O |>.fr HF.out (fun g hg => ⟨by have := (HD1.out.own.lt g hg).1; omega, by rw [HGV.out]; intro e; injection e with e; have := (HD1.out.own.lt g hg).2; have := HG0.out; omega⟩))
      obtain ⟨xs, hx, hX⟩ := HD1.out.segs
      have HB := hid (hx.alloc O |>.fr HF.out (fun g hg => ⟨by have := (hx.lt g hg).1; omega, by rw [HGV.out]; intro e; injection e with e; have := (hx.lt g hg).2; have := HG0.out; omega⟩))
      have HXX := hid (And.intro hx hX)
      have HRs := hid (show Rd wr (some ⟨g0, 0, none⟩) i (u8s s) from by have := Rd.of_arr HA2.out; rwa [u8s_len, ← HK.out] at this)
      have m1 := hid (show (u8s o).length + i ≤ maxLen ∧ ((u8s o).length + i) * 1 ≤ 140737488355328 from by have := HLO.out; have := HK.out; rw [u8s_len]; simp only [maxLen]; omega)
      have m2 := hid (show xs.length + 1 ≤ maxLen ∧ (xs.length + 1) * 24 ≤ 140737488355328 from by rw [hX.1]; simp only [maxLen]; omega)
      have HBw := hid (show B ≤ wr.heap.size from by have := HKp.out.size; simp at this; have := HC1.out.bs; omega)
      clear HA hsi hx hX
      go_wp2_with ((at_builtin; refine wpList_app _ rfl _ _ 22 rfl B 5 i5 _ 1 Try.underlying22 gi gz0 gz1 gz2 rfl _ (u8s o) rfl HO.out _ i i (u8s s) rfl HRs.out (u8s_one s) m1.out.1 m1.out.2 HBw.out ?_))
      intro v5 w5 hO5 hg5 ho5
      have HO5 := hid (show Own w5 B 5 v5 (u8s (o ++ s)) from by rw [u8s_app]; exact hO5)
      have HG5 := hid hg5
      have HOO5 := hid ho5
      have HB5 := hid (show Own w5 B 22 bv xs from HB.out.keep hg5 (by
        rcases hb : bv.ownBlock with _ | g
        · exact .inl rfl
        · exact .inr (fun e => HD1.out.sep g hb e.symm)))
      have HBw5 := hid (Nat.le_trans HBw.out hg5.size)
      clear hO5 hg5 ho5 HO HB
      go_wp2_with ((at_builtin; refine wpList_app _ rfl _ _ 23 rfl B 22 i22 _ 24 Try.underlying23 yi yz0 yz1 yz2 rfl _ xs rfl (HB5.out.alloc _) _ 1 1 [.slice (some ⟨g0, 0, none⟩) i i] rfl (Rd.one' _ _ _ _ (by first | rfl | (simp; done))) (by intro u hu; rw [List.mem_singleton.1 hu]; rfl) m2.out.1 m2.out.2 (Nat.le_trans HBw5.out (by simp <;> omega)) ?_))
      intro b7 w7 hB7 hg7 ho7
      have HE := hid (dec_bytes HD1.out HC1.out HG0.out HGV.out HK.out HS.out HA2.out HF.out HKp.out HXX.out.1 HXX.out.2 HO5.out HG5.out HOO5.out hB7 hg7 (by simpa using ho7))
      clear hB7 hg7 ho7 HO5 HG5 HOO5 HB5
      go_wp2_with fail
      refine bodyPost_ret (results_tmp3 rfl _ _ _) rfl ?_
      exact ⟨v5, b7, rfl, HE.out⟩
end Go.Proofs.Ytpffffhgmhpkiaa
