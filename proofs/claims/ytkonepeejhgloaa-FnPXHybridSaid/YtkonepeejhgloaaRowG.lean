/- A binarizer over a source: made, its arrays cleared, a row of the source. -/
import Derived.Test.YtkonepeejhgloaaRowE
import Derived.Test.YtkonepeejhgloaaPxE
import Derived.Laws.CopyOwn
namespace Go.Proofs.Ytkonepeejhgloaa
open Go.RowKit
set_option linter.unusedVariables false
set_option linter.unusedSimpArgs false

theorem info3 : (Try.prog.info? 3).map (fun i => (i.zero, i.size, i.bytes)) = some (some (.int .i64 0), 1, 8) := by kernel_rfl
/-- A binarizer over the source q: its grays in L (n of them), its 32 counts in G. -/
def Glob (w : World) (r q : Nat) (LA : Option Addr) (n G : Nat) : Prop := Arr w r 71 [.iface 78 (.pointer (some ⟨q, 0, none⟩)), .slice LA n n, .slice (some ⟨G, 0, none⟩) 32 32]
def GlobOut (q : Nat) (w : World) (e : Ending) (w' : World) : Prop :=
  ∃ r G LA, e = .returned (.iface 68 (.pointer (some ⟨r, 0, none⟩))) ∧ w.heap.size ≤ r ∧ w.heap.size ≤ G ∧ G ≠ r ∧ Glob w' r q LA 0 G ∧ Arr w' G 3 (List.replicate 32 (.int .i64 0)) ∧ Below w.heap.size w w'

set_option maxRecDepth 20000 in
set_option maxHeartbeats 2000000 in
theorem newGlob (q : Nat) (w : World) : Calls Try.prog 21 #[.iface 78 (.pointer (some ⟨q, 0, none⟩))] w (GlobOut q w) := by
  obtain ⟨i4, hi4, hb0, hb1, hb2⟩ := info_of info3
  have hmk := fun W => run_make (P := Try.prog) W 69 3 i4 (.int .i64 0) Try.underlying69 hi4 hb0 .i64 .i64 32 32 (by omega) (by omega) (by rw [hb2]; omega) (by omega)
  simp only [hb1] at hmk
  go_enter Try.func21, Try.ntmps21
  go_wp2
  go_ret
  have h0 := Below.refl w.heap.size w
  have h1 := h0.alloc (Nat.le_refl _) (.cells #[] 5)
  have h2 := h1.alloc (by simp) (.cells (madeCells #[.int .i64 0] 32) 3)
  have h3 := h2.alloc (by simp; omega) (.cells #[.iface 78 (.pointer (some ⟨q, 0, none⟩)), .slice (some ⟨w.heap.size, 0, none⟩) 0 0, .slice (some ⟨w.heap.size + 1, 0, none⟩) 32 32] 71)
  have a1 := Arr.made (w.alloc (.cells #[] 5)) 3 (.int .i64 0) 32
  have a2 := Arr.of_new ((w.alloc (.cells #[] 5)).alloc (.cells (madeCells #[.int .i64 0] 32) 3)) 71 #[.iface 78 (.pointer (some ⟨q, 0, none⟩)), .slice (some ⟨w.heap.size, 0, none⟩) 0 0, .slice (some ⟨w.heap.size + 1, 0, none⟩) 32 32]
  refine ⟨w.heap.size + 2, w.heap.size + 1, some ⟨w.heap.size, 0, none⟩, ?_, by omega, by omega, by omega, ?_, ?_, h3⟩
  · simp
  · unfold Glob; simpa using a2
  · have := a1.alloc (.cells #[.iface 78 (.pointer (some ⟨q, 0, none⟩)), .slice (some ⟨w.heap.size, 0, none⟩) 0 0, .slice (some ⟨w.heap.size + 1, 0, none⟩) 32 32] 71)
    simpa using this

theorem globSrc (r q n G : Nat) (LA : Option Addr) (w : World) (h : Glob w r q LA n G) : Calls Try.prog 59 #[.pointer (some ⟨r, 0, none⟩)] w fun e w' => e = .returned (.iface 78 (.pointer (some ⟨q, 0, none⟩))) ∧ w = w' := by
  have c := h.cell? 0
  simp only [List.getElem?_cons_zero, List.getElem?_cons_succ] at c
  clear h
  go_enter Try.func59, Try.ntmps59
  go_wp2_with fail
  go_ret
  exact ⟨rfl, rfl⟩

theorem zeros_set (n k : Nat) (v : Value) : (List.replicate n v).set k v = List.replicate n v := by
  apply List.ext_getElem
  · simp
  · intro i h1 h2
    rw [List.getElem_set]
    split <;> simp

/-- All blocks that there were, but two, are as they were. -/
def Kept (r G : Nat) (w w' : World) : Prop := w.heap.size ≤ w'.heap.size ∧ ∀ b, b < w.heap.size → b ≠ r → b ≠ G → w'.heap[b]? = w.heap[b]?
section
variable {r G : Nat} {w w' : World}
theorem Kept.arr (h : Kept r G w w') {g t : Nat} {l : List Value} (hA : Arr w g t l) (h1 : g ≠ r) (h2 : g ≠ G) : Arr w' g t l := (h.2 g hA.lt h1 h2).trans hA
theorem Kept.cell (h : Kept r G w w') {g k : Nat} (hg : g < w.heap.size) (h1 : g ≠ r) (h2 : g ≠ G) : w'.cell? ⟨g, k, none⟩ = w.cell? ⟨g, k, none⟩ := by
  unfold World.cell?
  rw [h.2 g hg h1 h2]
theorem Kept.set (h : Kept r G w w') {p : Addr} (hp : p.block = r ∨ p.block = G) (v : Value) : Kept r G w (w'.setCell p v) :=
  ⟨by rw [World.size_setCell]; exact h.1, fun b hb h1 h2 => (Below.heap_setCell w' p v b (by rcases hp with e | e <;> rw [e] <;> assumption)).trans (h.2 b hb h1 h2)⟩
theorem Kept.alloc (h : Kept r G w w') (o : Obj) : Kept r G w (w'.alloc o) :=
  ⟨by have := h.1; simp; omega, fun b hb h1 h2 => (Below.heap_alloc w' o b (Nat.lt_of_lt_of_le hb h.1)).trans (h.2 b hb h1 h2)⟩
theorem Kept.refl (r G : Nat) (w : World) : Kept r G w w := ⟨Nat.le_refl _, fun _ _ _ _ => rfl⟩
end

def InitOut (B r q wd G : Nat) (w : World) (e : Ending) (w' : World) : Prop :=
  ∃ L, e = .returned (.tuple #[]) ∧ w.heap.size ≤ L ∧ Glob w' r q (some ⟨L, 0, none⟩) wd G ∧ Arr w' L 5 (List.replicate wd (.int .u8 0)) ∧ Arr w' G 3 (List.replicate 32 (.int .i64 0)) ∧ Below B w w' ∧ Kept r G w w'
set_option maxRecDepth 20000 in
set_option maxHeartbeats 4000000 in
theorem initArrays (B r q wd G : Nat) (LA : Option Addr) (w : World) (h : Glob w r q LA 0 G) (hA : Arr w G 3 (List.replicate 32 (.int .i64 0))) (hGr : G ≠ r) (hBr : B ≤ r) (hBG : B ≤ G) (hw1 : 1 ≤ wd) (hw : wd ≤ 200) :
    Calls Try.prog 62 #[.pointer (some ⟨r, 0, none⟩), .int .i64 wd] w (InitOut B r q wd G w) := by
  obtain ⟨i4, hi4, hb0, hb1, hb2⟩ := info_parts info5
  have hmk := fun W => run_make (P := Try.prog) W 22 5 i4 (.int .u8 0) Try.underlying22 hi4 hb0 .i64 .i64 (wd : Int) (wd : Int) (by omega) (by omega) (by rw [hb2]; omega) (by omega)
  simp only [hb1] at hmk
  have c0 := h.cell? 0
  have c1 := h.cell? 1
  have c2 := h.cell? 2
  simp only [List.getElem?_cons_zero, List.getElem?_cons_succ] at c0 c1 c2
  have hwd : (0 : Int) < (wd : Int) := by omega
  have fz := h.frozen 1
  have hrl := h.lt
  have hGl := hA.lt
  have b0 : Below B w ((w.setCell ⟨r, 1, none⟩ (.slice (some ⟨w.heap.size, 0, none⟩) wd wd)).alloc (.cells (madeCells #[.int .u8 0] wd) 5)) := ((Below.refl B w).setCell (by simpa using hBr) _).alloc (by simp; omega) _
  have G0 : Glob ((w.setCell ⟨r, 1, none⟩ (.slice (some ⟨w.heap.size, 0, none⟩) wd wd)).alloc (.cells (madeCells #[.int .u8 0] wd) 5)) r q (some ⟨w.heap.size, 0, none⟩) wd G := (Arr.set h 1 _).alloc _
  have A0 := (hA.far (p := ⟨r, 1, none⟩) (by simpa using hGr) (.slice (some ⟨w.heap.size, 0, none⟩) wd wd)).alloc (.cells (madeCells #[.int .u8 0] wd) 5)
  have L0 := Arr.made (w.setCell ⟨r, 1, none⟩ (.slice (some ⟨w.heap.size, 0, none⟩) wd wd)) 5 (.int .u8 0) wd
  rw [World.size_setCell] at L0
  have HK := hid (show Kept r G w ((w.setCell ⟨r, 1, none⟩ (.slice (some ⟨w.heap.size, 0, none⟩) wd wd)).alloc (.cells (madeCells #[.int .u8 0] wd) 5)) from ((Kept.refl r G w).set (.inl rfl) _).alloc _)
  have HB := hid b0
  have HG := hid G0
  have HA := hid A0
  have HL := hid L0
  clear b0 G0 A0 L0 h hA
  go_enter Try.func62, Try.ntmps62
  go_wp2_with fail
  generalize (w.setCell ⟨r, 1, none⟩ (.slice (some ⟨w.heap.size, 0, none⟩) wd wd)).alloc (.cells (madeCells #[.int .u8 0] wd) 5) = w1 at *
  have hL0 : w.heap.size ≤ w.heap.size := Nat.le_refl _
  obtain ⟨L, hL⟩ : ∃ L, L = w.heap.size := ⟨_, rfl⟩
  have hLr : r < L := by omega
  have hLG : G < L := by omega
  have hLw : w.heap.size ≤ L := by omega
  rw [← hL] at HG HL
  clear c0 c1 c2 fz hmk hL hL0
  go_loopw [4] (fun iv wr => ∃ k : Nat, k ≤ 32 ∧ iv = .int .i64 (k : Nat) ∧ Hid (Glob wr r q (some ⟨L, 0, none⟩) wd G) ∧ Hid (Arr wr L 5 (List.replicate wd (.int .u8 0))) ∧ Hid (Arr wr G 3 (List.replicate 32 (.int .i64 0))) ∧ Hid (Below B w wr) ∧ Hid (Kept r G w wr)) (fun iv _ => 32 - (intOf iv).toNat)
  case atStart => exact ⟨0, by omega, rfl, HG, HL, HA, HB, HK⟩
  case round =>
    clear HG HL HA HB HK
    obtain ⟨k, hk, rfl, HG, HL, HA, HB, HK⟩ := hrel
    by_cases hlt : k < 32
    · have hlt' : (k : Int) < 32 := by omega
      have c2 := HG.out.cell? 2
      simp only [List.getElem?_cons_zero, List.getElem?_cons_succ] at c2
      obtain ⟨v0, hv0⟩ := HA.out.has k (by simpa using hlt)
      have fz := HA.out.frozen k
      go_wp2_with fail
      go_roundw
      case rel => exact ⟨k + 1, by omega, by go_num, hid (HG.out.far (p := ⟨G, k, none⟩) (by simpa using Ne.symm hGr) _), hid (HL.out.far (p := ⟨G, k, none⟩) (by simp; omega) _), hid (by have := HA.out.set k (.int .i64 0); rwa [zeros_set] at this), hid (HB.out.setCell (by simpa using hBG) _), hid (HK.out.set (.inr rfl) _)⟩
      case measure => simp [intOf]; omega
    · obtain rfl : k = 32 := by omega
      go_wp2_with fail
      go_end0
      exact ⟨L, rfl, hLw, HG.out, HL.out, HA.out, HB.out, HK.out⟩

/-- Row y of the pixels. -/
def rowPx (px : Nat → Nat) (wd y : Nat) : Nat → Nat := fun x => px (y * wd + x)
def GetRowOut (L wd : Nat) (px : Nat → Nat) (w : World) (e : Ending) (w' : World) : Prop :=
  e = .returned (.tuple #[.slice (some ⟨L, 0, none⟩) wd wd, .nilIface]) ∧ Arr w' L 5 (bytesOf wd px) ∧ Below L w w'

theorem metRow (a : Addr) (w : World) : (method 244 78 (.pointer (some a)) "GetRow").run Try.prog w = .ok (73, .pointer (some a)) w := by kernel_rfl

set_option maxRecDepth 20000 in
set_option maxHeartbeats 4000000 in
theorem getRow (L q g wd h n cap y : Nat) (px : Nat → Nat) (w : World) (hP : Plan w q g wd h n cap) (hO : ∀ k, k < n → w.cell? ⟨g, k, none⟩ = some (.int .u8 (px k : Nat))) (hA : Arr w L 5 (List.replicate wd (.int .u8 0)))
    (hn : n = wd * h) (hy : y < h) (hw1 : 1 ≤ wd) (hw2 : wd ≤ 120) (hh2 : h ≤ 120) (hcap : n ≤ cap) (hpx : ∀ k, px k < 256) :
    Calls Try.prog 73 #[.pointer (some ⟨q, 0, none⟩), .int .i64 y, .slice (some ⟨L, 0, none⟩) wd wd] w (GetRowOut L wd (rowPx px wd y) w) := by
  have gw := getWidth w q g wd h n cap hP
  have gh := getHeight w q g wd h n cap hP
  have eqn := Lib.run_eql_slice_nil w 22 5 (some ⟨L, 0, none⟩) wd wd 0 0 Try.underlying22
  have c0 := hP.cell? 0
  have c1 := hP.cell? 1
  have c2 := hP.cell? 2
  have c3 := hP.cell? 3
  have c4 := hP.cell? 4
  have c5 := hP.cell? 5
  have c6 := hP.cell? 6
  simp only [List.getElem?_cons_zero, List.getElem?_cons_succ] at c0 c1 c2 c3 c4 c5 c6
  have hy' : (y : Int) < (h : Int) := by omega
  have hyw : y * wd + wd ≤ n := by
    rw [hn, Nat.mul_comm wd h]
    have := Nat.mul_le_mul_right wd (show y + 1 ≤ h by omega)
    rwa [Nat.add_mul, Nat.one_mul] at this
  have hnb : n ≤ 120 * 120 := by rw [hn]; exact Nat.mul_le_mul hw2 hh2
  have hmul : (y : Int) * (wd : Int) = ((y * wd : Nat) : Int) := by simp
  obtain ⟨i4, hi4, hb0, hb1, hb2⟩ := info_parts info5
  have hin5 : (Try.prog.info? 5).map (·.size) = some 1 := by rw [hi4]; simp [hb1]
  have HSRC := hid (fun j v (hj : (bytesOf wd (rowPx px wd y))[j]? = some v) => show w.cell? ((⟨g, y * wd, none⟩ : Addr).add j) = some v from by
    have hjl : j < wd := by
      rcases Nat.lt_or_ge j wd with h1 | h1
      · exact h1
      · rw [List.getElem?_eq_none (by rw [bytesOf_length]; exact h1)] at hj; cases hj
    rw [bytesOf_at _ _ _ hjl] at hj
    injection hj with hj
    subst hj
    have := hO (y * wd + j) (by omega)
    unfold Addr.add rowPx
    by_cases h0 : j = 0
    · subst h0; simpa using this
    · simp only [h0, if_false]; exact this)
  have HLEN := hid (bytesOf_length wd (rowPx px wd y))
  have HONE := hid (bytes_one wd (rowPx px wd y))
  have HA := hid hA
  have HXS := hid (show splice (List.replicate wd (Value.int .u8 0)) 0 (bytesOf wd (rowPx px wd y)) = bytesOf wd (rowPx px wd y) from by simp [splice, HLEN.out])
  have HP := hid hP
  generalize hRB : bytesOf wd (rowPx px wd y) = RB at *
  have HRB := hid hRB
  clear hRB
  generalize y * wd = yw at *
  clear hn hO hP hA hpx hi4 hb0 hb1 hb2
  go_enter Try.func73, Try.ntmps73
  go_wp2_with fail
  refine gh.mono ?_
  rintro e w1 ⟨rfl, rfl⟩
  go_wp2_with fail
  refine gw.mono ?_
  rintro e w1 ⟨rfl, rfl⟩
  go_wp2_with fail
  go_quiet (fail)
  have HA2 := hid (HA.out.drewN nq)
  have HS2 := hid (fun j v (h : RB[j]? = some v) => show (w.drewN nq).cell? ((⟨g, yw, none⟩ : Addr).add j) = some v from HSRC.out j v h)
  have HBB := hid (below_drewN (Below.refl L w) nq)
  have c2' : (w.drewN nq).cell? ⟨q, 2, none⟩ = some (.slice (some ⟨g, 0, none⟩) n cap) := c2
  generalize w.drewN nq = w2 at *
  have e1 : (yw : Int) + (wd : Int) ≤ (cap : Int) := by omega
  have e2 : ((yw : Int) + (wd : Int)).toNat - yw = wd := by omega
  have hrep : (List.replicate wd (Value.int .u8 0)).length = wd := by simp
  clear HA HSRC HP
  go_wp2_with (refine wpList_copy_splice rfl (.tmp 51) (.tmp 60) 22 22 rfl 5 Try.underlying22 hin5 (some ⟨L, 0, none⟩) (some ⟨g, yw, none⟩) wd wd wd (cap - yw) rfl (by rfl) L 0 (List.replicate wd (.int .u8 0)) 5 HA2.out RB (by rw [HLEN.out]; exact (Nat.min_self wd).symm) (fun _ => ⟨rfl, _, rfl, HS2.out⟩) (by rw [HLEN.out, hrep]; omega) HONE.out L w HBB.out (Nat.le_refl _) ?_)
  intro w3 hw3 hB3
  have HW3 := hid (show Arr w3 L 5 RB from by rw [← HXS.out]; exact hw3.out)
  have HB3 := hid hB3
  clear hw3 hB3
  go_wp2_with fail
  go_ret2
  exact ⟨rfl, by rw [HRB.out]; exact HW3.out, HB3.out⟩
end Go.Proofs.Ytkonepeejhgloaa
