/- The walk of FnBISources: the program's reading. -/
import Derived.Test.YtifegijnhlbedaaSrcW
import Derived.Deep.RegionHeld3
namespace Go.Proofs.Ytifegijnhlbedaa
open Go.RowKit
set_option linter.unusedVariables false

theorem readBits (q : Nat) (A : Option Addr) (n c p : Nat) (l : List Nat) (v : Int) (w : World) (h : Src w q A n c p) (hp : p ≤ 8 * n) (hn : n ≤ 40) (hR : Rd w A n (u8s l)) (hb : ∀ j, l.getD j 0 < 256) (hq : ∀ a, A = some a → a.block ≠ q) (hv : -128 ≤ v ∧ v ≤ 127) :
    Calls Try.prog 33 #[.pointer (some ⟨q, 0, none⟩), .int .i64 v] w (ReadOut l q A n c p v w) := by
  rcases hok : okw n p v with _ | _
  · exact readBits_no q A n c p l v w h hp hn hv hok
  · simp only [okw, decide_eq_true_eq] at hok
    obtain ⟨m, rfl⟩ := Int.eq_ofNat_of_zero_le (show (0 : Int) ≤ v by omega)
    rcases Nat.eq_zero_or_pos (p % 8) with h0 | h0
    · exact readBits_A q A n c p l m w h hp hn hR hb hq (by omega) (by omega) (by omega) h0
    · by_cases hin : m < 8 - p % 8
      · exact readBits_B q A n c p l m w h hp hn hR hb (by omega) (by omega) (by omega) h0 hin
      · exact readBits_C q A n c p l m w h hp hn hR hb hq (by omega) (by omega) (by omega) h0 (by omega)

def posTo (n : Nat) (vs : List Int) : Nat → Nat
  | 0 => 0
  | k + 1 => if okw n (posTo n vs k) (vs.getD k 0) then posTo n vs k + (vs.getD k 0).toNat else posTo n vs k
theorem posTo_le (n : Nat) (vs : List Int) : ∀ k, posTo n vs k ≤ 8 * n
  | 0 => by simp [posTo]
  | k + 1 => by
    have h := posTo_le n vs k
    simp only [posTo]
    split
    · rename_i h2
      simp only [okw, decide_eq_true_eq] at h2
      omega
    · exact h
def valOf (n : Nat) (l : List Nat) (vs : List Int) (i : Nat) : Nat := if okw n (posTo n vs i) (vs.getD i 0) then rdn l (posTo n vs i) (vs.getD i 0).toNat else 0
def valsTo (n : Nat) (l : List Nat) (vs : List Int) (k : Nat) : List Value := (List.range k).map fun i => .int .i64 (valOf n l vs i : Nat)
def finesTo (n : Nat) (vs : List Int) (k : Nat) : List Value := (List.range k).map fun i => .bool (okw n (posTo n vs i) (vs.getD i 0))
def leftsTo (n : Nat) (vs : List Int) (k : Nat) : List Value := (List.range k).map fun i => .int .i64 (8 * n - posTo n vs (i + 1) : Nat)
theorem valsTo_succ (n : Nat) (l : List Nat) (vs : List Int) (k : Nat) : valsTo n l vs (k + 1) = valsTo n l vs k ++ [.int .i64 (valOf n l vs k : Nat)] := by simp [valsTo, List.range_succ]
theorem finesTo_succ (n : Nat) (vs : List Int) (k : Nat) : finesTo n vs (k + 1) = finesTo n vs k ++ [.bool (okw n (posTo n vs k) (vs.getD k 0))] := by simp [finesTo, List.range_succ]
theorem leftsTo_succ (n : Nat) (vs : List Int) (k : Nat) : leftsTo n vs (k + 1) = leftsTo n vs k ++ [.int .i64 (8 * n - posTo n vs (k + 1) : Nat)] := by simp [leftsTo, List.range_succ]
theorem valsTo_length (n : Nat) (l : List Nat) (vs : List Int) (k : Nat) : (valsTo n l vs k).length = k := by simp [valsTo]
theorem finesTo_length (n : Nat) (vs : List Int) (k : Nat) : (finesTo n vs k).length = k := by simp [finesTo]
theorem leftsTo_length (n : Nat) (vs : List Int) (k : Nat) : (leftsTo n vs k).length = k := by simp [leftsTo]

/-- Three lists that were read. -/
def SrcOut (n : Nat) (l : List Nat) (vs : List Int) (w : World) (e : Ending) (w' : World) : Prop :=
  ∃ A1 c1 A2 c2 A3 c3, e = .returned (.tuple #[.slice A1 vs.length c1, .slice A2 vs.length c2, .slice A3 vs.length c3]) ∧ Rd w' A1 vs.length (valsTo n l vs vs.length) ∧ Rd w' A2 vs.length (finesTo n vs vs.length) ∧ Rd w' A3 vs.length (leftsTo n vs vs.length) ∧ Below w.heap.size w w'

/-- Two slices do not share a block that they own. -/
def Apart (a b : Value) : Prop := ∀ k, a.ownBlock = some k → b.ownBlock ≠ some k
theorem Apart.symm {a b : Value} (h : Apart a b) : Apart b a := fun k hk e => h k e hk
theorem Apart.keep {a b : Value} (h : Apart a b) : b.ownBlock = none ∨ b.ownBlock ≠ a.ownBlock := by
  rcases hb : b.ownBlock with _ | k
  · exact .inl rfl
  · right
    intro e
    exact h k e.symm hb

theorem info3s : (Try.prog.info? 3).map (fun i => (i.zero, i.size, i.bytes)) = some (some (.int .i64 0), 1, 8) := by kernel_rfl
theorem info4s : (Try.prog.info? 4).map (fun i => (i.zero, i.size, i.bytes)) = some (some (.bool false), 1, 1) := by kernel_rfl
theorem info5s : (Try.prog.info? 5).map (fun i => (i.zero, i.size, i.bytes)) = some (some (.int .u8 0), 1, 1) := by kernel_rfl

def ints64 (vs : List Int) : List Value := vs.map (Value.int .i64)
theorem rd_i {w : World} {A : Option Addr} {n : Nat} {zs : List Int} (h : Rd w A n (ints64 zs)) (j : Nat) (hj : j < n) :
    ∃ b o, A = some ⟨b, o, none⟩ ∧ b < w.heap.size ∧ w.cell? ⟨b, o + j, none⟩ = some (.int .i64 (zs.getD j 0)) := by
  obtain ⟨b, o, hA, hb, hc⟩ := h.2 (by omega)
  have hl : zs.length = n := by have := h.1; simpa [ints64] using this
  refine ⟨b, o, hA, hb, ?_⟩
  rw [hc j (by rw [ints64, List.length_map]; omega)]
  simp [ints64, List.getD, List.getElem?_eq_getElem (show j < zs.length by omega)]
theorem u8s_one (l : List Nat) : ∀ u ∈ u8s l, u.oneCell' = true := by
  intro u hu
  obtain ⟨x, _, rfl⟩ := List.mem_map.1 hu
  rfl

theorem Rd.lowq {w w' : World} {A : Option Addr} {n q : Nat} {l : List Value} (h : Rd w A n l) (hb : Below q w w') (hA : ∀ a, A = some a → a.block < q) : Rd w' A n l :=
  ⟨h.1, fun hn => by
    obtain ⟨b, o, hA', hl, hc⟩ := h.2 hn
    have hbq : b < q := hA _ hA'
    exact ⟨b, o, hA', Nat.lt_of_lt_of_le hl hb.size, fun k hk => (hb.cell (p := ⟨b, o + k, none⟩) hbq).trans (hc k hk)⟩⟩
section
variable {w2 w w' : World} {q n c p : Nat} {A : Option Addr}
theorem keepS_alloc (h : Src w q A n c p ∧ q < w.heap.size ∧ Below q w2 w) (o : Obj) : Src (w.alloc o) q A n c p ∧ q < (w.alloc o).heap.size ∧ Below q w2 (w.alloc o) :=
  ⟨h.1.alloc o, by have := h.2.1; simp; omega, h.2.2.alloc (Nat.le_of_lt h.2.1) o⟩
theorem keepS_grown {r : Option Nat} (h : Src w q A n c p ∧ q < w.heap.size ∧ Below q w2 w) (hg : w.grownBy w' r) (hr : ∀ j, r = some j → q < j) : Src w' q A n c p ∧ q < w'.heap.size ∧ Below q w2 w' :=
  ⟨Arr.grown h.1 hg (fun e => Nat.lt_irrefl _ (hr q e.symm)), Nat.lt_of_lt_of_le h.2.1 hg.size, h.2.2.grown hg (Nat.le_of_lt h.2.1) (fun j e => Nat.le_of_lt (hr j e))⟩
theorem keepS_drewN (h : Src w q A n c p ∧ q < w.heap.size ∧ Below q w2 w) (k : Nat) : Src (w.drewN k) q A n c p ∧ q < (w.drewN k).heap.size ∧ Below q w2 (w.drewN k) := ⟨h.1, h.2.1, ⟨h.2.2.os, h.2.2.tape, h.2.2.output, h.2.2.size, h.2.2.block⟩⟩
end

def ReadOut2 (q : Nat) (A : Option Addr) (n c : Nat) (x : Nat) (ok : Bool) (p' : Nat) (w : World) (e : Ending) (w' : World) : Prop :=
  ∃ er, e = .returned (.tuple #[.int .i64 (x : Nat), er]) ∧ (er = .nilIface ∧ ok = true ∨ (∃ a, er = .iface 78 (.pointer (some a))) ∧ ok = false) ∧ Src w' q A n c p' ∧ w.grownBy w' (some q)
theorem readBits2 (q : Nat) (A : Option Addr) (n c : Nat) (l : List Nat) (vs : List Int) (k : Nat) (w : World) (hn : n ≤ 40) (hb : ∀ j, l.getD j 0 < 256) (hq : ∀ a, A = some a → a.block < q) (hvs : ∀ j, -128 ≤ vs.getD j 0 ∧ vs.getD j 0 ≤ 127) (h : Src w q A n c (posTo n vs k)) (hR : Rd w A n (u8s l)) :
    Calls Try.prog 33 #[.pointer (some ⟨q, 0, none⟩), .int .i64 (vs.getD k 0)] w (ReadOut2 q A n c (valOf n l vs k) (okw n (posTo n vs k) (vs.getD k 0)) (posTo n vs (k + 1)) w) :=
  (readBits q A n c (posTo n vs k) l (vs.getD k 0) w h (posTo_le n vs k) hn hR hb (fun a e => Nat.ne_of_lt (hq a e)) (hvs k)).mono fun _ _ h => h

/-- The three lists, each in a block of its own. -/
structure Three (w : World) (C : Nat) (v1 v2 v3 : Value) (x1 x2 x3 : List Value) : Prop where
  o1 : Own w C 3 v1 x1
  o2 : Own w C 4 v2 x2
  o3 : Own w C 3 v3 x3
  a12 : Apart v1 v2
  a13 : Apart v1 v3
  a23 : Apart v2 v3

theorem Apart.app {a b a' : Value} {z : Nat} (h : Apart a b) (ha : a'.ownBlock = a.ownBlock ∨ a'.ownBlock = some z) (hb : ∀ k, b.ownBlock = some k → k < z) : Apart a' b := by
  rcases ha with e | e
  · intro k hk; exact h k (e.symm.trans hk)
  · intro k hk e2
    rw [e] at hk
    injection hk with hk
    have := hb k e2
    omega
theorem Rd.one' (w : World) (e : TypeId) (v : Value) (s : Nat) (h : s = w.heap.size) : Rd (w.alloc (.cells #[v] e)) (Option.some ⟨s, 0, none⟩) 1 [v] := by
  subst h
  exact Rd.one w e v
theorem Rd.grown {w w' : World} {A : Option Addr} {n : Nat} {l : List Value} {row : Option Nat} (h : Rd w A n l) (hg : w.grownBy w' row) (hA : ∀ a, A = some a → some a.block ≠ row) : Rd w' A n l :=
  ⟨h.1, fun hn => by
    obtain ⟨b, o, hA', hl, hc⟩ := h.2 hn
    have hbq : some b ≠ row := hA _ hA'
    exact ⟨b, o, hA', Nat.lt_of_lt_of_le hl hg.size, fun k hk => World.grownBy.cell hg (hc k hk) hbq⟩⟩

theorem Rd.grown1 {w w' : World} {b B : Nat} {l : List Value} {row : Option Nat} (h : Rd w (Option.some ⟨b, 0, none⟩) 1 l) (hg : w.grownBy w' row) (hr : ∀ j, row = some j → j < B) (hb : B ≤ b) : Rd w' (Option.some ⟨b, 0, none⟩) 1 l :=
  Rd.grown h hg fun a e e2 => by
    injection e with e
    subst e
    have := hr _ e2.symm
    exact absurd this (by show ¬ b < B; omega)
set_option maxHeartbeats 2000000 in
theorem sourceRead (A : Option Addr) (n c : Nat) (l : List Nat) (B : Option Addr) (N d : Nat) (vs : List Int) (w : World) (hn : n ≤ 40) (hN : N ≤ 60) (hR : Rd w A n (u8s l)) (hb : ∀ j, l.getD j 0 < 256) (hV : Rd w B N (ints64 vs)) (hvs : ∀ j, -128 ≤ vs.getD j 0 ∧ vs.getD j 0 ≤ 127) :
    Calls Try.prog 19 #[.slice A n c, .slice B N d] w (SrcOut n l vs w) := by
  obtain ⟨i3, hi3, hz30, hz31, hz32⟩ := info_parts info3s
  obtain ⟨i4, hi4, hz40, hz41, hz42⟩ := info_parts info4s
  obtain ⟨i5, hi5, hz50, hz51, hz52⟩ := info_parts info5s
  have hvl : vs.length = N := by have := hV.1; simpa [ints64] using this
  have hll : (u8s l).length = n := hR.1
  go_enter Try.func19, Try.ntmps19
  go_wp2_with (at_builtin; refine wpList_app _ rfl _ _ 29 rfl w.heap.size 5 i5 _ 1 Try.underlying29 hi5 hz50 hz51 hz52 rfl _ [] rfl (Own.nil _ _ _) A n c (u8s l) rfl hR (u8s_one l) (by simp [maxLen]; omega) (by simp; omega) (Nat.le_refl _) ?_)
  intro v0 w1 hO hg _
  obtain ⟨A0, c0, hv0, hR0, hc0⟩ := hO.form
  have hlt0 := hO.lt
  subst hv0
  rw [hll] at hR0 hc0

  have hB1 : Below w.heap.size w w1 := (Below.refl _ _).grown hg (Nat.le_refl _) (by simp [Value.ownBlock])
  have HL0 := hid hlt0
  clear hO hg hlt0 hi5 hz50 hz51 hz52
  rw [hll]
  go_wp2
  have hq0 : ∀ a, A0 = some a → a.block < w1.heap.size := fun a e => by
    subst e
    exact (HL0.out a.block rfl).2
  have S0 : Src (w1.alloc (.cells #[.slice A0 n c0, .int .i64 0, .int .i64 0] 70)) w1.heap.size A0 n c0 0 := Arr.of_new _ _ _
  have R0 : Rd (w1.alloc (.cells #[.slice A0 n c0, .int .i64 0, .int .i64 0] 70)) A0 n (u8s l) := hR0.alloc _
  have B0 : Below w.heap.size w (w1.alloc (.cells #[.slice A0 n c0, .int .i64 0, .int .i64 0] 70)) := hB1.alloc hB1.size _
  have hq1 : w1.heap.size < (w1.alloc (.cells #[.slice A0 n c0, .int .i64 0, .int .i64 0] 70)).heap.size := by simp
  have hqw : w.heap.size ≤ w1.heap.size := hB1.size
  generalize w1.alloc (.cells #[.slice A0 n c0, .int .i64 0, .int .i64 0] 70) = w2 at *
  generalize w1.heap.size = q at *
  clear hR0 HL0 hB1 hll hR
  have HQ := hid hq0
  have HR0 := hid R0
  have HB0 := hid B0
  clear hq0 R0 B0
  go_loopw [8, 9, 10, 20] (fun v1 v3 v2 i wr => ∃ k : Nat, k ≤ N ∧ i = .int .i64 k ∧ Three wr (q + 1) v1 v2 v3 (valsTo n l vs k) (finesTo n vs k) (leftsTo n vs k) ∧ Src wr q A0 n c0 (posTo n vs k) ∧ Below q w2 wr) (fun _ _ _ i _ => N - (intOf i).toNat)
  case atStart => exact ⟨0, by omega, rfl, ⟨Own.nil _ _ _, Own.nil _ _ _, Own.nil _ _ _, by intro k hk; simp [Value.ownBlock] at hk, by intro k hk; simp [Value.ownBlock] at hk, by intro k hk; simp [Value.ownBlock] at hk⟩, S0, Below.refl _ _⟩
  case round =>
    obtain ⟨k, hk, rfl, hT, hS, hB⟩ := hrel
    have hBw : Below w.heap.size w wr := HB0.out.trans (hB.mono hqw)
    by_cases hlt : k < N
    · have h1 : (k : Int) < (N : Int) := by omega
      obtain ⟨b, o, rfl, hbw, hcell⟩ := rd_i hV k hlt
      have hc2 := (hBw.cell (p := ⟨b, o + k, none⟩) hbw).trans hcell
      have rb := readBits2 q A0 n c0 l vs k wr hn hb HQ.out hvs hS (HR0.out.lowq hB HQ.out)
      have HV1 := hid (valsTo_succ n l vs k)
      have HV2 := hid (finesTo_succ n vs k)
      have HV3 := hid (leftsTo_succ n vs k)
      have L1 := valsTo_length n l vs k
      have L2 := finesTo_length n vs k
      have L3 := leftsTo_length n vs k
      have hp' := posTo_le n vs (k + 1)
      generalize valsTo n l vs k = x1 at *
      generalize finesTo n vs k = x2 at *
      generalize leftsTo n vs k = x3 at *
      generalize valOf n l vs k = x at *
      generalize hpk : posTo n vs (k + 1) = p' at *
      generalize okw n (posTo n vs k) (vs.getD k 0) = ok at *
      generalize vs.getD k 0 = v at *
      have HT := hid hT
      have HB := hid hB
      have HBW := hid hBw
      have HS := hid hS
      have LL1 := hid L1
      have LL2 := hid L2
      have LL3 := hid L3
      have HC := hid hcell
      clear hT hB hBw hS L1 L2 L3 hcell
      go_wp2_with fail
      refine rb.mono ?_
      rintro e w5 ⟨er, rfl, her, hS5, hg5⟩
      have T5 : Three w5 (q + 1) u8 u10 u9 x1 x2 x3 := by
        have h := HT.out
        have hne : ∀ {e v x}, Own wr (q + 1) e v x → (v.ownBlock = none ∨ v.ownBlock ≠ some q) := fun {e v x} ho => by
          right; intro e2; have := (ho.lt q e2).1; omega
        exact ⟨h.o1.keep hg5 (hne h.o1), h.o2.keep hg5 (hne h.o2), h.o3.keep hg5 (hne h.o3), h.a12, h.a13, h.a23⟩
      have HT5 := hid T5
      have B5 : Below q w2 w5 := HB.out.grown hg5 (by have := HB.out.size; omega) (fun j hj => by injection hj with hj; omega)
      have HB5 := hid B5
      have hq5 : q < w5.heap.size := Nat.lt_of_lt_of_le hq1 B5.size
      clear T5 B5 hg5 rb hc2
      rcases her with ⟨rfl, hok⟩ | ⟨⟨a5, rfl⟩, hok⟩
      · subst hok
        go_wp2_with fail
        have nq1 : ∀ j, u8.ownBlock = some j → q < j := fun j e => (HT5.out.o1.lt j e).1
        have nq2 : ∀ j, u10.ownBlock = some j → q < j := fun j e => (HT5.out.o2.lt j e).1
        have nq3 : ∀ j, u9.ownBlock = some j → q < j := fun j e => (HT5.out.o3.lt j e).1
        have lt1 : ∀ j, u8.ownBlock = some j → j < w5.heap.size := fun j e => (HT5.out.o1.lt j e).2
        have lt2 : ∀ j, u10.ownBlock = some j → j < w5.heap.size := fun j e => (HT5.out.o2.lt j e).2
        have lt3 : ∀ j, u9.ownBlock = some j → j < w5.heap.size := fun j e => (HT5.out.o3.lt j e).2
        have ap12 := HT5.out.a12.keep
        have ap13 := HT5.out.a13.keep
        have ap23 := HT5.out.a23.keep
        go_region_held3 (fun w' => Src w' q A0 n c0 p' ∧ q < w'.heap.size ∧ Below q w2 w')
          (first | exact ⟨hS5, hq5, HB5.out.drew⟩ | exact ⟨hS5, hq5, HB5.out⟩ | exact keepS_alloc (by assumption) _ | exact keepS_grown (by assumption) hg6 nq1 | exact keepS_grown (by assumption) hg7 nq2 | exact keepS_grown (by assumption) hg8 nq3 | exact keepS_drewN (by assumption) _)
          (first
            | (go_at_call 34; ((with_reducible refine (available q A0 n c0 p' _ ?_ hp' hn).mono ?_); (first | exact (And.left (by assumption))); rintro e w9 ⟨rfl, k9, rfl⟩))
            | (refine step_app _ (by rfl) _ _ 23 (by rfl) (q + 1) 3 i3 _ 8 Try.underlying23 hi3 hz30 hz31 hz32 rfl u8 x1 (by rfl) (by repeat (first | exact HT5.out.o1 | with_reducible apply Own.alloc | with_reducible apply Own.drew | with_reducible apply Own.drewN)) _ 1 1 [.int .i64 (x : Nat)] (by rfl) (by repeat (first | (with_reducible refine Rd.one' _ _ _ _ ?_; simp; done) | with_reducible apply Rd.alloc | with_reducible apply Rd.drew | with_reducible apply Rd.drewN)) (by simp [Value.oneCell']) (by rw [LL1.out]; unfold maxLen; omega) (by rw [LL1.out]; omega) (by simp; omega) ?_; intro v6 w6 hO6 hg6 hat6)
            | (refine step_app _ (by rfl) _ _ 28 (by rfl) (q + 1) 4 i4 _ 1 Try.underlying28 hi4 hz40 hz41 hz42 rfl u10 x2 (by rfl) (by repeat (first | exact HT5.out.o2 | with_reducible apply Own.alloc | with_reducible apply Own.drew | with_reducible apply Own.drewN | (with_reducible refine Own.keep ?_ hg6 ap12))) _ 1 1 [.bool true] (by rfl)
                (by repeat (first | (with_reducible refine Rd.one' _ _ _ _ ?_; simp; done) | with_reducible apply Rd.alloc | with_reducible apply Rd.drew | with_reducible apply Rd.drewN | (with_reducible refine Rd.grown1 ?_ hg6 lt1 (by omega))))
                (by simp [Value.oneCell']) (by rw [LL2.out]; unfold maxLen; omega) (by rw [LL2.out]; omega) (by have := hg6.size; simp at *; omega) ?_; intro v7 w7 hO7 hg7 hat7)
            | (refine step_app _ (by rfl) _ _ 23 (by rfl) (q + 1) 3 i3 _ 8 Try.underlying23 hi3 hz30 hz31 hz32 rfl u9 x3 (by rfl) (by repeat (first | exact HT5.out.o3 | with_reducible apply Own.alloc | with_reducible apply Own.drew | with_reducible apply Own.drewN | (with_reducible refine Own.keep ?_ hg6 ap13) | (with_reducible refine Own.keep ?_ hg7 ap23))) _ 1 1 [.int .i64 (8 * n - p' : Nat)] (by rfl) (by repeat (first | (with_reducible refine Rd.one' _ _ _ _ ?_; simp; done) | with_reducible apply Rd.alloc | with_reducible apply Rd.drew | with_reducible apply Rd.drewN)) (by simp [Value.oneCell']) (by rw [LL3.out]; unfold maxLen; omega) (by rw [LL3.out]; omega) (by have := hg6.size; have := hg7.size; simp at *; omega) ?_; intro v8 w8 hO8 hg8 hat8))
        all_goals (
          have S8 : Src w8 q A0 n c0 p' ∧ q < w8.heap.size ∧ Below q w2 w8 := by assumption
          have P1 : Apart v6 u10 := HT5.out.a12.app hat6 (by intro k hk; have h1 := lt2 k hk; first | exact h1 | (simp; omega))
          have P2 : Apart v6 u9 := HT5.out.a13.app hat6 (by intro k hk; have h1 := lt3 k hk; first | exact h1 | (simp; omega))
          have P3 : Apart v7 u9 := HT5.out.a23.app hat7 (by intro k hk; have h1 := lt3 k hk; have h2 := hg6.size; first | omega | (simp at h1 h2 ⊢ <;> omega))
          have Q1 : Apart v7 v6 := P1.symm.app hat7 (by intro k hk; have h1 := (hO6.lt k hk).2; first | exact h1 | (simp; omega))
          have Q2 : Apart v8 v6 := P2.symm.app hat8 (by intro k hk; have h1 := (hO6.lt k hk).2; have h3 := hg7.size; first | omega | (simp at h1 h3 ⊢ <;> omega))
          have Q3 : Apart v8 v7 := P3.symm.app hat8 (by intro k hk; have h1 := (hO7.lt k hk).2; first | exact h1 | (simp; omega))
          have r1 := P1.symm.keep
          have r2 := P2.symm.keep
          have r3 := P3.symm.keep
          have T8 : Three w8 (q + 1) v6 v7 v8 (x1 ++ [.int .i64 (x : Nat)]) (x2 ++ [.bool true]) (x3 ++ [.int .i64 (8 * n - p' : Nat)]) :=
            ⟨by repeat (first | exact hO6 | with_reducible apply Own.alloc | with_reducible apply Own.drew | with_reducible apply Own.drewN | (with_reducible refine Own.keep ?_ hg7 r1) | (with_reducible refine Own.keep ?_ hg8 r2)),
             by repeat (first | exact hO7 | with_reducible apply Own.alloc | with_reducible apply Own.drew | with_reducible apply Own.drewN | (with_reducible refine Own.keep ?_ hg8 r3)),
             hO8, Q1.symm, Q2.symm, Q3.symm⟩
          clear hg6 hg7 hg8 hat6 hat7 hat8 hO6 hO7 hO8 P1 P2 P3 Q1 Q2 Q3 r1 r2 r3
          rw [← HV1.out, ← HV2.out, ← HV3.out] at T8
          rw [← hpk] at S8
          have HT8 := hid T8
          have HS8 := hid S8
          clear T8 S8
          go_wp2
          go_roundw
          case rel =>
            (repeat apply Exists.intro)
            exact ⟨⟨k + 1, by omega, by go_num, HT8.out, HS8.out.1, HS8.out.2.2⟩, rfl⟩
          case measure => simp [intOf]; omega)
      · subst hok
        go_wp2_with fail
        have nq1 : ∀ j, u8.ownBlock = some j → q < j := fun j e => (HT5.out.o1.lt j e).1
        have nq2 : ∀ j, u10.ownBlock = some j → q < j := fun j e => (HT5.out.o2.lt j e).1
        have nq3 : ∀ j, u9.ownBlock = some j → q < j := fun j e => (HT5.out.o3.lt j e).1
        have lt1 : ∀ j, u8.ownBlock = some j → j < w5.heap.size := fun j e => (HT5.out.o1.lt j e).2
        have lt2 : ∀ j, u10.ownBlock = some j → j < w5.heap.size := fun j e => (HT5.out.o2.lt j e).2
        have lt3 : ∀ j, u9.ownBlock = some j → j < w5.heap.size := fun j e => (HT5.out.o3.lt j e).2
        have ap12 := HT5.out.a12.keep
        have ap13 := HT5.out.a13.keep
        have ap23 := HT5.out.a23.keep
        go_region_held3 (fun w' => Src w' q A0 n c0 p' ∧ q < w'.heap.size ∧ Below q w2 w')
          (first | exact ⟨hS5, hq5, HB5.out.drew⟩ | exact ⟨hS5, hq5, HB5.out⟩ | exact keepS_alloc (by assumption) _ | exact keepS_grown (by assumption) hg6 nq1 | exact keepS_grown (by assumption) hg7 nq2 | exact keepS_grown (by assumption) hg8 nq3 | exact keepS_drewN (by assumption) _)
          (first
            | (go_at_call 34; ((with_reducible refine (available q A0 n c0 p' _ ?_ hp' hn).mono ?_); (first | exact (And.left (by assumption))); rintro e w9 ⟨rfl, k9, rfl⟩))
            | (refine step_app _ (by rfl) _ _ 23 (by rfl) (q + 1) 3 i3 _ 8 Try.underlying23 hi3 hz30 hz31 hz32 rfl u8 x1 (by rfl) (by repeat (first | exact HT5.out.o1 | with_reducible apply Own.alloc | with_reducible apply Own.drew | with_reducible apply Own.drewN)) _ 1 1 [.int .i64 (x : Nat)] (by rfl) (by repeat (first | (with_reducible refine Rd.one' _ _ _ _ ?_; simp; done) | with_reducible apply Rd.alloc | with_reducible apply Rd.drew | with_reducible apply Rd.drewN)) (by simp [Value.oneCell']) (by rw [LL1.out]; unfold maxLen; omega) (by rw [LL1.out]; omega) (by simp; omega) ?_; intro v6 w6 hO6 hg6 hat6)
            | (refine step_app _ (by rfl) _ _ 28 (by rfl) (q + 1) 4 i4 _ 1 Try.underlying28 hi4 hz40 hz41 hz42 rfl u10 x2 (by rfl) (by repeat (first | exact HT5.out.o2 | with_reducible apply Own.alloc | with_reducible apply Own.drew | with_reducible apply Own.drewN | (with_reducible refine Own.keep ?_ hg6 ap12))) _ 1 1 [.bool false] (by rfl)
                (by repeat (first | (with_reducible refine Rd.one' _ _ _ _ ?_; simp; done) | with_reducible apply Rd.alloc | with_reducible apply Rd.drew | with_reducible apply Rd.drewN | (with_reducible refine Rd.grown1 ?_ hg6 lt1 (by omega))))
                (by simp [Value.oneCell']) (by rw [LL2.out]; unfold maxLen; omega) (by rw [LL2.out]; omega) (by have := hg6.size; simp at *; omega) ?_; intro v7 w7 hO7 hg7 hat7)
            | (refine step_app _ (by rfl) _ _ 23 (by rfl) (q + 1) 3 i3 _ 8 Try.underlying23 hi3 hz30 hz31 hz32 rfl u9 x3 (by rfl) (by repeat (first | exact HT5.out.o3 | with_reducible apply Own.alloc | with_reducible apply Own.drew | with_reducible apply Own.drewN | (with_reducible refine Own.keep ?_ hg6 ap13) | (with_reducible refine Own.keep ?_ hg7 ap23))) _ 1 1 [.int .i64 (8 * n - p' : Nat)] (by rfl) (by repeat (first | (with_reducible refine Rd.one' _ _ _ _ ?_; simp; done) | with_reducible apply Rd.alloc | with_reducible apply Rd.drew | with_reducible apply Rd.drewN)) (by simp [Value.oneCell']) (by rw [LL3.out]; unfold maxLen; omega) (by rw [LL3.out]; omega) (by have := hg6.size; have := hg7.size; simp at *; omega) ?_; intro v8 w8 hO8 hg8 hat8))
        all_goals (
          have S8 : Src w8 q A0 n c0 p' ∧ q < w8.heap.size ∧ Below q w2 w8 := by assumption
          have P1 : Apart v6 u10 := HT5.out.a12.app hat6 (by intro k hk; have h1 := lt2 k hk; first | exact h1 | (simp; omega))
          have P2 : Apart v6 u9 := HT5.out.a13.app hat6 (by intro k hk; have h1 := lt3 k hk; first | exact h1 | (simp; omega))
          have P3 : Apart v7 u9 := HT5.out.a23.app hat7 (by intro k hk; have h1 := lt3 k hk; have h2 := hg6.size; first | omega | (simp at h1 h2 ⊢ <;> omega))
          have Q1 : Apart v7 v6 := P1.symm.app hat7 (by intro k hk; have h1 := (hO6.lt k hk).2; first | exact h1 | (simp; omega))
          have Q2 : Apart v8 v6 := P2.symm.app hat8 (by intro k hk; have h1 := (hO6.lt k hk).2; have h3 := hg7.size; first | omega | (simp at h1 h3 ⊢ <;> omega))
          have Q3 : Apart v8 v7 := P3.symm.app hat8 (by intro k hk; have h1 := (hO7.lt k hk).2; first | exact h1 | (simp; omega))
          have r1 := P1.symm.keep
          have r2 := P2.symm.keep
          have r3 := P3.symm.keep
          have T8 : Three w8 (q + 1) v6 v7 v8 (x1 ++ [.int .i64 (x : Nat)]) (x2 ++ [.bool false]) (x3 ++ [.int .i64 (8 * n - p' : Nat)]) :=
            ⟨by repeat (first | exact hO6 | with_reducible apply Own.alloc | with_reducible apply Own.drew | with_reducible apply Own.drewN | (with_reducible refine Own.keep ?_ hg7 r1) | (with_reducible refine Own.keep ?_ hg8 r2)),
             by repeat (first | exact hO7 | with_reducible apply Own.alloc | with_reducible apply Own.drew | with_reducible apply Own.drewN | (with_reducible refine Own.keep ?_ hg8 r3)),
             hO8, Q1.symm, Q2.symm, Q3.symm⟩
          clear hg6 hg7 hg8 hat6 hat7 hat8 hO6 hO7 hO8 P1 P2 P3 Q1 Q2 Q3 r1 r2 r3
          rw [← HV1.out, ← HV2.out, ← HV3.out] at T8
          rw [← hpk] at S8
          have HT8 := hid T8
          have HS8 := hid S8
          clear T8 S8
          go_wp2
          go_roundw
          case rel =>
            (repeat apply Exists.intro)
            exact ⟨⟨k + 1, by omega, by go_num, HT8.out, HS8.out.1, HS8.out.2.2⟩, rfl⟩
          case measure => simp [intOf]; omega)
    · obtain rfl : k = N := by omega
      subst hvl
      obtain ⟨A1, c1, e1, R1, _⟩ := hT.o1.form
      obtain ⟨A2, c2, e2, R2, _⟩ := hT.o2.form
      obtain ⟨A3, c3, e3, R3, _⟩ := hT.o3.form
      rw [valsTo_length] at e1 R1
      rw [finesTo_length] at e2 R2
      rw [leftsTo_length] at e3 R3
      subst e1 e2 e3
      have HR1 := hid R1
      have HR2 := hid R2
      have HR3 := hid R3
      clear R1 R2 R3 hT hS hB
      go_wp2
      go_ret3
      exact ⟨A1, c1, A2, c2, A3, c3, rfl, HR1.out, HR2.out, HR3.out, hBw⟩
end Go.Proofs.Ytifegijnhlbedaa
