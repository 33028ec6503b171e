/- Strings as bytes, slices of bytes, frames: words that the walks of this seat share. -/
import Derived.Test.YtpffffhgmhpkiaaSrcW
import Derived.Test.YtpffffhgmhpkiaaOpen
import Derived.KernelRfl
import Derived.BigQuiet
import Derived.Deep.QuietTactic
import Derived.Deep.RegionHeld3
import Derived.Deep.LoopGhost
import Derived.Deep.DrawnRows
import Derived.Laws.BytesArg
import Derived.Lib.ConvBytes
import Derived.Lib.SmallJoins
namespace Go.Proofs.Ytpffffhgmhpkiaa
open Go.RowKit
set_option linter.unusedVariables false
set_option linter.unusedSimpArgs false

/-- Bytes as a string. -/
def strOf (l : List Nat) : ByteArray := ⟨(l.map UInt8.ofNat).toArray⟩
theorem strOf_size (l : List Nat) : (strOf l).size = l.length := by simp [strOf, ByteArray.size]
theorem strOf_ext (l : List Nat) (i j : Nat) : (strOf l).extract i j = strOf ((l.drop i).take (j - i)) := by
  apply ByteArray.ext
  rw [ByteArray.data_extract]
  unfold strOf
  simp
theorem strOf_one (l : List Nat) (i : Nat) (h : i < l.length) : (strOf l).extract i (i + 1) = strOf [l.getD i 0] := by
  have : (l.drop i).take 1 = [l.getD i 0] := by
    rw [List.drop_eq_getElem_cons h, List.getD, List.getElem?_eq_getElem h]; rfl
  rw [strOf_ext, show i + 1 - i = 1 from by omega, this]
theorem strOf_app (a b : List Nat) : strOf a ++ strOf b = strOf (a ++ b) := by
  apply ByteArray.ext
  simp [strOf]
theorem strOf_ne (a : Nat) (l : List Nat) : strOf (a :: l) ≠ ⟨#[]⟩ := by
  intro h
  have := congrArg ByteArray.size h
  simp [strOf, ByteArray.size] at this
theorem Rd.one' (w : World) (e : TypeId) (v : Value) (s : Nat) (h : s = w.heap.size) : Rd (w.alloc (.cells #[v] e)) (Option.some ⟨s, 0, none⟩) 1 [v] := by
  subst h
  exact Rd.one w e v
theorem info9 : (Try.prog.info? 9).map (fun i => (i.zero, i.size, i.bytes)) = some (some (.string ⟨#[]⟩), 1, 16) := by kernel_rfl
theorem info_of {t : TypeId} {z : Value} {b : Nat} (h : (Try.prog.info? t).map (fun i => (i.zero, i.size, i.bytes)) = some (some z, 1, b)) : ∃ i, Try.prog.info? t = some i ∧ i.zero = some z ∧ i.size = 1 ∧ i.bytes = b := by
  cases hi : Try.prog.info? t with
  | none => rw [hi] at h; cases h
  | some i =>
    rw [hi] at h
    simp only [Option.map_some, Option.some.injEq, Prod.mk.injEq] at h
    exact ⟨i, rfl, h.1, h.2.1, h.2.2⟩
theorem Own.fresh {w : World} {B : Nat} {e : TypeId} {A : Option Addr} {n c : Nat} {xs : List Value} (h : Own w B e (.slice A n c) xs) : ∀ ad, A = some ad → B ≤ ad.block := fun ad hA => (Own.lt h ad.block (by subst hA; rfl)).1
theorem Own.lit {w : World} {B : Nat} {e : TypeId} (cs : Array Value) (hb : B ≤ w.heap.size) (hm : cs.size ≤ maxLen) : Own (w.alloc (.cells cs e)) B e (.slice (some ⟨w.heap.size, 0, none⟩) cs.size cs.size) cs.toList := by
  have := World.ownsRow_lit (base := B) (e := e) (size := 1) w cs cs.size hb hm (by simp)
  simpa [Own] using this
theorem Own.far {w : World} {B : Nat} {e : TypeId} {v : Value} {xs : List Value} (h : Own w B e v xs) {p : Addr} (hp : v.ownBlock ≠ some p.block) (u : Value) : Own (w.setCell p u) B e v xs := by
  refine ⟨h.1, ?_⟩
  rcases h.2 with h2 | ⟨g, cap, cur, hv, hg, hh, r⟩
  · exact .inl h2
  · refine .inr ⟨g, cap, cur, hv, hg, ?_, r⟩
    rw [Below.heap_setCell w p u g (by intro h; apply hp; rw [hv, h]; rfl)]
    exact hh

/-- What a call keeps that has a block q and an owned slice v: all other blocks. -/
def Fr (q : Nat) (v : Value) (w : World) (v' : Value) (w' : World) : Prop :=
  w.heap.size ≤ w'.heap.size ∧ ∀ g, g < w.heap.size → g ≠ q → v.ownBlock ≠ some g → w'.heap[g]? = w.heap[g]? ∧ v'.ownBlock ≠ some g
theorem Fr.refl (q : Nat) (v : Value) (w : World) : Fr q v w v w := ⟨Nat.le_refl _, fun _ _ _ h => ⟨rfl, h⟩⟩
theorem Fr.trans {q : Nat} {v v' v'' : Value} {w w' w'' : World} (h : Fr q v w v' w') (k : Fr q v' w' v'' w'') : Fr q v w v'' w'' :=
  ⟨Nat.le_trans h.1 k.1, fun g h1 h2 h3 => by
    obtain ⟨a1, a2⟩ := h.2 g h1 h2 h3
    obtain ⟨b1, b2⟩ := k.2 g (Nat.lt_of_lt_of_le h1 h.1) h2 a2
    exact ⟨b1.trans a1, b2⟩⟩
theorem Fr.drewN {q : Nat} {v v' : Value} {w w' : World} (h : Fr q v w v' w') (n : Nat) : Fr q v w v' (w'.drewN n) := h
theorem Rd.fr {q : Nat} {v v' : Value} {w w' : World} {A : Option Addr} {n : Nat} {l : List Value} (h : Rd w A n l) (hf : Fr q v w v' w')
    (hA : ∀ ad, A = some ad → ad.block ≠ q ∧ v.ownBlock ≠ some ad.block) : Rd w' A n l := by
  refine ⟨h.1, fun hn => ?_⟩
  obtain ⟨b, o, hA', hb, hc⟩ := h.2 hn
  obtain ⟨h1, h2⟩ := hA _ hA'
  exact ⟨b, o, hA', Nat.lt_of_lt_of_le hb hf.1, fun k hk => (World.cell?_of_block (w := w) (hf.2 b hb h1 h2).1).trans (hc k hk)⟩

theorem Fr.alloc {q : Nat} {v v' : Value} {w w' : World} (h : Fr q v w v' w') (o : Obj) : Fr q v w v' (w'.alloc o) := ⟨Nat.le_trans h.1 (by simp), fun g h1 h2 h3 => ⟨(Below.heap_alloc w' o g (Nat.lt_of_lt_of_le h1 h.1)).trans (h.2 g h1 h2 h3).1, (h.2 g h1 h2 h3).2⟩⟩
def ints (l : List Nat) : List Value := l.map fun n => Value.int .i64 (n : Nat)
theorem ints_len (l : List Nat) : (ints l).length = l.length := by simp [ints]
theorem u8s_len (l : List Nat) : (u8s l).length = l.length := by simp [u8s]
theorem strOf_nums (l : List Nat) : strOfNums (l.map fun n => ((n : Nat) : Int)) = strOf l := by
  unfold strOfNums strOf
  congr 2
  rw [List.map_map]
  rfl
theorem strOf_toList (l : List Nat) : (strOf l).toList = l.map UInt8.ofNat := by
  unfold strOf
  rw [ByteArray.toList_mk]
theorem info5 : (Try.prog.info? 5).map (fun i => (i.zero, i.size, i.bytes)) = some (some (.int .u8 0), 1, 1) := by kernel_rfl
theorem u8s_one (l : List Nat) : ∀ u ∈ u8s l, u.oneCell' = true := by
  intro u hu
  obtain ⟨x, _, rfl⟩ := List.mem_map.1 hu
  rfl
theorem own_text {w : World} {B : Nat} {v : Value} {o : List Nat} (h : Own w B 5 v (u8s o)) (hn : v.ownBlock ≠ none) :
    ∃ g c, v = .slice (some ⟨g, 0, none⟩) o.length c ∧ (convert 22 9 (.slice (some ⟨g, 0, none⟩) o.length c)).run Try.prog w = .ok (.string (strOf o)) w := by
  rcases h.2 with ⟨rfl, hx⟩ | ⟨g, cap, cur, hv, hg, hh, hnc, r⟩
  · exact absurd rfl hn
  · rw [u8s_len] at hv
    refine ⟨g, cap, hv, ?_⟩
    have hf := h.form
    obtain ⟨A, c, hv2, hR, hc⟩ := hf
    rw [u8s_len] at hv2 hR hc
    rw [hv] at hv2
    simp only [Value.slice.injEq] at hv2
    obtain ⟨e1, _, e3⟩ := hv2
    subst e1
    subst e3
    have := run_convert_bytes_arg (P := Try.prog) w 22 5 Try.underlying22 Try.underlying5 g 0 o.length cap (o.map fun n => ((n : Nat) : Int)) (by simp) (fun i hi => by
      obtain ⟨b, oo, hA, hb, hcc⟩ := hR.2 (by omega)
      injection hA with hA
      injection hA with hA1 hA2
      subst hA1 hA2
      rw [hcc i (by rw [u8s_len]; exact hi)]
      simp [u8s, List.getD, List.getElem?_eq_getElem hi]) 9 Try.underlying9
    rwa [strOf_nums] at this

theorem str_conv (W : World) (l : List Nat) (h : ∀ c ∈ l, c < 256) : ∃ cap W', (convert 9 22 (.string (strOf l))).run Try.prog W = .ok (.slice (some ⟨W.heap.size, 0, none⟩) (strOf l).size cap) W' ∧
    Rd W' (some ⟨W.heap.size, 0, none⟩) l.length (u8s l) ∧ Below W.heap.size W W' ∧ W'.heap.size = W.heap.size + 1 := by
  refine ⟨_, _, Lib.run_convert_string_bytes W 9 22 5 (strOf l) Try.underlying9 Try.underlying22 Try.underlying5, ⟨u8s_len l, fun hn => ⟨W.heap.size, 0, rfl, by rw [Lib.bytesWorld_size]; omega, fun k hk => ?_⟩⟩, Go.Joins.below_bytesWorld _ _ _ _ (Nat.le_refl _), Lib.bytesWorld_size _ _ _⟩
  rw [u8s_len] at hk
  rw [Nat.zero_add, Lib.bytesWorld_cell W 5 (strOf l) k (by rw [strOf_size]; exact hk)]
  have e : (strOf l).data.toList = l.map UInt8.ofNat := by simp [strOf]
  rw [e]
  simp only [u8s, List.getElem_map, List.getD, List.getElem?_map, List.getElem?_eq_getElem hk, Option.map_some, Option.getD_some]
  rw [UInt8.toNat_ofNat_of_lt' (h _ (List.getElem_mem hk))]
theorem u8s_set (l : List Nat) (k n : Nat) : (u8s l).set k (.int .u8 (n : Nat)) = u8s (l.set k n) := by simp [u8s, List.map_set]
theorem u8s_rep (n : Nat) : List.replicate n (Value.int .u8 0) = u8s (List.replicate n 0) := by simp [u8s]
theorem arr_text {w : World} {g : Nat} {l : List Nat} (h : Arr w g 5 (u8s l)) (n c : Nat) (hn : n = l.length) : (convert 22 9 (.slice (some ⟨g, 0, none⟩) n c)).run Try.prog w = .ok (.string (strOf l)) w := by
  subst hn
  have := run_convert_bytes_arg (P := Try.prog) w 22 5 Try.underlying22 Try.underlying5 g 0 l.length c (l.map fun n => ((n : Nat) : Int)) (by simp) (fun i hi => by
    rw [Nat.zero_add, h.cell i (by rw [u8s_len]; exact hi)]
    simp [u8s, List.getD, List.getElem?_eq_getElem hi]) 9 Try.underlying9
  rwa [strOf_nums] at this

theorem info3 : (Try.prog.info? 3).map (fun i => (i.zero, i.size, i.bytes)) = some (some (.int .i64 0), 1, 8) := by kernel_rfl
theorem ints_snoc (l : List Nat) (n : Nat) : ints (l ++ [n]) = ints l ++ [.int .i64 (n : Nat)] := by simp [ints]
theorem ints_one (n : Nat) : ∀ u ∈ [Value.int .i64 (n : Nat)], u.oneCell' = true := by intro u hu; rw [List.mem_singleton.1 hu]; rfl

/-- Every string is bytes. -/
theorem str_is (s : ByteArray) : ∃ l : List Nat, s = strOf l ∧ ∀ c ∈ l, c < 256 := by
  refine ⟨s.data.toList.map UInt8.toNat, ?_, ?_⟩
  · apply ByteArray.ext
    unfold strOf
    apply Array.ext'
    simp only [List.map_map]
    exact (List.map_id'' (fun x => by simp) _).symm
  · intro c hc
    obtain ⟨x, _, rfl⟩ := List.mem_map.1 hc
    exact x.toNat_lt
structure Kept (P : Prop) : Prop where
  out : P
/-- Ways that end alike are walked on once. -/
theorem dedup {P Q : Prop} (h : Kept P → Q) (p : P) : Q := h ⟨p⟩
end Go.Proofs.Ytpffffhgmhpkiaa
