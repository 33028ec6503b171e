/- QR codes: FnRQJoins: sort.Slice over results, by their numbers. -/
import Derived.Test.YtpffffhgmhpkiaaJnF
import Derived.Shelf.GgSortFunc.Whole
import Derived.Shelf.GgSortFunc.Tiny
import Derived.Deep.QuietTactic
import Derived.Ground.GgsProg
import Derived.Lib.RowBridge
import Derived.Lib.SortBridge
import Derived.Sort.LotA
namespace Go.Proofs
open Go.Shelf
/-- Where the functions and types of the sort lie in this program (written by lay-plain.mjs). -/
def Try.sj6_ren : Go.Shelf.Ren := ⟨fun | 6 => 104 | 10 => 122 | 11 => 123 | 12 => 124 | 13 => 125 | 14 => 126 | 24 => 146 | 25 => 147 | 26 => 148 | 27 => 149 | 28 => 150 | 29 => 151 | 30 => 152 | 31 => 153 | 32 => 154 | 33 => 155 | 34 => 159 | 35 => 160 | 36 => 161 | 37 => 162 | 38 => 163 | 39 => 164 | n => n, fun | 20 => 20 | 26 => 169 | 35 => 209 | 0 => 0 | 37 => 211 | 3 => 3 | 41 => 59 | 44 => 216 | 49 => 218 | 51 => 229 | 4 => 4 | 54 => 232 | 53 => 231 | 58 => 73 | 5 => 5 | 9 => 9 | 60 => 240 | 64 => 244 | 66 => 246 | 67 => 141 | 17 => 17 | 32 => 206 | 33 => 207 | 82 => 260 | 12 => 12 | 75 => 253 | 76 => 254 | 77 => 255 | 78 => 256 | 79 => 257 | 80 => 258 | n => n, fun | n => n⟩
theorem Try.sj6 : Go.Proofs.LaysGg.n6 Try.prog Try.sj6_ren := {
  mixed := by kernel_rfl
  f6 := Try.func104.trans (congrArg some (by kernel_rfl))
  f10 := Try.func122.trans (congrArg some (by kernel_rfl))
  f11 := Try.func123.trans (congrArg some (by kernel_rfl))
  f12 := Try.func124.trans (congrArg some (by kernel_rfl))
  f13 := Try.func125.trans (congrArg some (by kernel_rfl))
  f14 := Try.func126.trans (congrArg some (by kernel_rfl))
  f24 := Try.func146.trans (congrArg some (by kernel_rfl))
  f25 := Try.func147.trans (congrArg some (by kernel_rfl))
  f26 := Try.func148.trans (congrArg some (by kernel_rfl))
  f27 := Try.func149.trans (congrArg some (by kernel_rfl))
  f28 := Try.func150.trans (congrArg some (by kernel_rfl))
  f29 := Try.func151.trans (congrArg some (by kernel_rfl))
  f30 := Try.func152.trans (congrArg some (by kernel_rfl))
  f31 := Try.func153.trans (congrArg some (by kernel_rfl))
  f32 := Try.func154.trans (congrArg some (by kernel_rfl))
  f33 := Try.func155.trans (congrArg some (by kernel_rfl))
  f34 := Try.func159.trans (congrArg some (by kernel_rfl))
  f35 := Try.func160.trans (congrArg some (by kernel_rfl))
  f36 := Try.func161.trans (congrArg some (by kernel_rfl))
  f37 := Try.func162.trans (congrArg some (by kernel_rfl))
  f38 := Try.func163.trans (congrArg some (by kernel_rfl))
  f39 := Try.func164.trans (congrArg some (by kernel_rfl))
  t0 := Try.underlying0
  a0 := Try.isAgg0
  z0 := Try.sizeOf0
  v0 := Try.zeroValue0
  i0 := by kernel_rfl
  t3 := Try.underlying3
  a3 := Try.isAgg3
  z3 := Try.sizeOf3
  v3 := Try.zeroValue3
  i3 := by kernel_rfl
  t4 := Try.underlying4
  a4 := Try.isAgg4
  z4 := Try.sizeOf4
  v4 := Try.zeroValue4
  i4 := by kernel_rfl
  t5 := Try.underlying5
  a5 := Try.isAgg5
  z5 := Try.sizeOf5
  v5 := Try.zeroValue5
  i5 := by kernel_rfl
  t9 := Try.underlying9
  a9 := Try.isAgg9
  z9 := Try.sizeOf9
  v9 := Try.zeroValue9
  i9 := by kernel_rfl
  t12 := Try.underlying12
  a12 := Try.isAgg12
  z12 := Try.sizeOf12
  v12 := Try.zeroValue12
  i12 := by kernel_rfl
  t17 := Try.underlying17
  a17 := Try.isAgg17
  z17 := Try.sizeOf17
  v17 := Try.zeroValue17
  i17 := by kernel_rfl
  t20 := Try.underlying20
  a20 := Try.isAgg20
  z20 := Try.sizeOf20
  v20 := Try.zeroValue20
  i20 := by kernel_rfl
  t26 := Try.underlying169
  a26 := Try.isAgg169
  z26 := Try.sizeOf169
  v26 := Try.zeroValue169
  i26 := by kernel_rfl
  t32 := Try.underlying206
  a32 := Try.isAgg206
  z32 := Try.sizeOf206
  v32 := Try.zeroValue206
  i32 := by kernel_rfl
  t33 := Try.underlying207
  a33 := Try.isAgg207
  z33 := Try.sizeOf207
  v33 := Try.zeroValue207
  i33 := by kernel_rfl
  t35 := Try.underlying209
  a35 := Try.isAgg209
  z35 := Try.sizeOf209
  v35 := Try.zeroValue209
  i35 := by kernel_rfl
  t37 := Try.underlying211
  a37 := Try.isAgg211
  z37 := Try.sizeOf211
  v37 := Try.zeroValue211
  i37 := by kernel_rfl
  t41 := Try.underlying59
  a41 := Try.isAgg59
  z41 := Try.sizeOf59
  v41 := Try.zeroValue59
  i41 := by kernel_rfl
  t44 := Try.underlying216
  a44 := Try.isAgg216
  z44 := Try.sizeOf216
  v44 := Try.zeroValue216
  i44 := by kernel_rfl
  t49 := Try.underlying218
  a49 := Try.isAgg218
  z49 := Try.sizeOf218
  v49 := Try.zeroValue218
  i49 := by kernel_rfl
  t51 := Try.underlying229
  a51 := Try.isAgg229
  z51 := Try.sizeOf229
  v51 := Try.zeroValue229
  i51 := by kernel_rfl
  t53 := Try.underlying231
  a53 := Try.isAgg231
  z53 := Try.sizeOf231
  v53 := Try.zeroValue231
  i53 := by kernel_rfl
  t54 := Try.underlying232
  a54 := Try.isAgg232
  z54 := Try.sizeOf232
  v54 := Try.zeroValue232
  i54 := by kernel_rfl
  t58 := Try.underlying73
  a58 := Try.isAgg73
  z58 := Try.sizeOf73
  v58 := Try.zeroValue73
  i58 := by kernel_rfl
  t60 := Try.underlying240
  a60 := Try.isAgg240
  z60 := Try.sizeOf240
  v60 := Try.zeroValue240
  i60 := by kernel_rfl
  t64 := Try.underlying244
  a64 := Try.isAgg244
  z64 := Try.sizeOf244
  v64 := Try.zeroValue244
  i64 := by kernel_rfl
  t66 := Try.underlying246
  a66 := Try.isAgg246
  z66 := Try.sizeOf246
  v66 := Try.zeroValue246
  i66 := by kernel_rfl
  t67 := Try.underlying141
  a67 := Try.isAgg141
  z67 := Try.sizeOf141
  v67 := Try.zeroValue141
  i67 := by kernel_rfl
  t75 := Try.underlying253
  a75 := Try.isAgg253
  z75 := Try.sizeOf253
  v75 := Try.zeroValue253
  i75 := by kernel_rfl
  t76 := Try.underlying254
  a76 := Try.isAgg254
  z76 := Try.sizeOf254
  v76 := Try.zeroValue254
  i76 := by kernel_rfl
  t77 := Try.underlying255
  a77 := Try.isAgg255
  z77 := Try.sizeOf255
  v77 := Try.zeroValue255
  i77 := by kernel_rfl
  t78 := Try.underlying256
  a78 := Try.isAgg256
  z78 := Try.sizeOf256
  v78 := Try.zeroValue256
  i78 := by kernel_rfl
  t79 := Try.underlying257
  a79 := Try.isAgg257
  z79 := Try.sizeOf257
  v79 := Try.zeroValue257
  i79 := by kernel_rfl
  t80 := Try.underlying258
  a80 := Try.isAgg258
  z80 := Try.sizeOf258
  v80 := Try.zeroValue258
  i80 := by kernel_rfl
  t82 := Try.underlying260
  a82 := Try.isAgg260
  z82 := Try.sizeOf260
  v82 := Try.zeroValue260
  i82 := by kernel_rfl }
end Go.Proofs
namespace Go.Proofs.Ytpffffhgmhpkiaa
open Go.RowKit Go.Lib Go.Shelf
set_option linter.unusedVariables false
set_option linter.unusedSimpArgs false

noncomputable def siT : TypeInfo := (Try.prog.info? 60).get (by kernel_rfl)
noncomputable def siE : TypeInfo := (Try.prog.info? 61).get (by kernel_rfl)
theorem siK (n : Nat) (h2 : 2 ≤ n) : Lib.swapperK n siE 22 = 3 := by
  have a : siE.hasPointers = true := by kernel_rfl
  have b : siE.bytes = 8 := by kernel_rfl
  have c : (n == 0) = false := by simp; omega
  have d : (n == 1) = false := by simp; omega
  simp [Lib.swapperK, a, b, c, d]
/-- The comparison of two results. -/
def sNum (q : RV) : Int := q.s.getD 0
set_option maxRecDepth 20000 in
set_option maxHeartbeats 4000000 in
theorem lessQ (blk z m c : Nat) (W : World) (P : Nat → Nat) (q : Nat → RV) (dk : Nat → Nat) (hz : W.cell? ⟨z, 0, none⟩ = some (.slice (some ⟨blk, 0, none⟩) m c))
    (hc : ∀ t, t < m → W.cell? ⟨blk, t, none⟩ = some (.pointer (some ⟨P (dk t), 0, none⟩))) (hr : ∀ k, ResAt W (P k) (q k)) (i j : Nat) (hi : i < m) (hj : j < m) :
    Calls Try.prog 127 #[.int .i64 i, .int .i64 j, .pointer (some ⟨z, 0, none⟩)] W fun e w' => e = .returned (.bool (decide (sNum (q (dk i)) < sNum (q (dk j))))) ∧ W = w' := by
  have ci := hc i hi
  have cj := hc j hj
  obtain ⟨_, _, _, _, _, _, mi, gi, Ai, _, Mi, _⟩ := hr (dk i)
  obtain ⟨_, _, _, _, _, _, mj, gj, Aj, _, Mj, _⟩ := hr (dk j)
  have ti := getMQ Ai
  have tj := getMQ Aj
  have li := look9 Mi
  have lj := look9 Mj
  have ai := fun W => as3 (q (dk i)).s W
  have aj := fun W => as3 (q (dk j)).s W
  have hi' : (i : Int) < (m : Int) := by omega
  have hj' : (j : Int) < (m : Int) := by omega
  unfold sNum
  generalize (q (dk i)).s = si at *
  generalize (q (dk j)).s = sj at *
  generalize sVal si = vi at *
  generalize sVal sj = vj at *
  generalize si.isSome = oi at *
  generalize sj.isSome = oj at *
  generalize si.getD 0 = xi at *
  generalize sj.getD 0 = xj at *
  generalize P (dk i) = pi at *
  generalize P (dk j) = pj at *
  clear hr hc Ai Aj Mi Mj
  go_enter Try.func127, Try.ntmps127
  go_wp2_with fail
  refine ti.mono ?_
  rintro e w1 ⟨rfl, rfl⟩
  go_wp2_with fail
  refine tj.mono ?_
  rintro e w1 ⟨rfl, rfl⟩
  go_wp2_with fail
  go_ret
  exact ⟨rfl, rfl⟩
def pOf (y : List Value) : Nat := match y with | [.pointer (some a)] => a.block | _ => 0
def idx (m k : Nat) : Nat := if k < m then k else 0
theorem idx_lt {m : Nat} (h : 1 ≤ m) (k : Nat) : idx m k < m := by unfold idx; split <;> omega
theorem putRow_heap {α : Type} [Inhabited α] (enc : α → Value) (w : World) (blk off : Nat) (d : Array α) (g : Nat) (h : g ≠ blk) : (Sort.putRow enc w blk off d).heap[g]? = w.heap[g]? := by
  simp only [Sort.putRow, Sort.mapBlock, Array.getElem?_modify, if_neg (Ne.symm h)]
def SortOut (L : List RV) (m blk : Nat) (w : World) (e : Ending) (w' : World) : Prop :=
  e = .returned (.tuple #[]) ∧ ∃ L' : List RV, L'.Perm L ∧ L'.Pairwise (fun a b => ¬ sNum b < sNum a) ∧ On Al w' (fun W => RdL FR 1 W (some ⟨blk, 0, none⟩) m L') ∧ Kp w.heap.size blk w w'
theorem sortQ {B : Nat} (L : List RV) (blk z c m : Nat) (w : World) (h : OwnL FR 1 Al w B 61 (.slice (some ⟨blk, 0, none⟩) m c) L) (hm : m = L.length) (h1 : 1 ≤ m) (hz : w.cell? ⟨z, 0, none⟩ = some (.slice (some ⟨blk, 0, none⟩) m c)) (hzb : z ≠ blk) (hzl : z < w.heap.size)
    (hm63 : m < 4611686018427387904) : Calls Try.prog 104 #[.iface 60 (.slice (some ⟨blk, 0, none⟩) m c), .func (.func 127) #[] #[.pointer (some ⟨z, 0, none⟩)]] w (SortOut L m blk w) := by
  obtain ⟨A0, hA0⟩ : ∃ A0, A0 = L[0]'(by omega) := ⟨_, rfl⟩
  by_cases h2 : 2 ≤ m
  · obtain ⟨ys, y0, y1, hO, hF⟩ := h
    rw [← hm] at hO
    have hbl : blk < w.heap.size := (World.ownsRow.lt hO blk rfl).2
    let q : Nat → RV := fun k => L.getD (idx m k) A0
    let P : Nat → Nat := fun k => pOf (ys.getD (idx m k) [])
    let enc : Nat → Value := fun k => .pointer (some ⟨P k, 0, none⟩)
    let lt : Nat → Nat → Bool := fun a b => decide (sNum (q a) < sNum (q b))
    have hq : ∀ W, w.heap.size ≤ W.heap.size → (∀ g, g < w.heap.size → g ≠ blk → W.heap[g]? = w.heap[g]?) → ∀ k, ResAt W (P k) (q k) ∧ ys.getD (idx m k) [] = [enc k] := by
      intro W a b k
      have hk := idx_lt h1 k
      have hF2 := hF W a (fun g g1 g2 => b g g1 (fun e => g2.2 (by rw [e]; rfl))) (idx m k) (q k) (ys.getD (idx m k) []) (by
        show L[idx m k]? = some (L.getD (idx m k) A0)
        rw [List.getD, List.getElem?_eq_getElem (by omega)]; rfl) (by
        rw [List.getD, List.getElem?_eq_getElem (by omega)]; rfl)
      obtain ⟨p, hp, _, hr⟩ := hF2
      have hpe : P k = p := by show pOf _ = p; rw [hp]; rfl
      exact ⟨by rw [hpe]; exact hr, by show _ = [Value.pointer (some ⟨P k, 0, none⟩)]; rw [hpe]; exact hp⟩
    have hcell : ∀ t, t < m → w.cell? ⟨blk, t, none⟩ = some (enc t) := by
      intro t ht
      have e := (hq w (Nat.le_refl _) (fun _ _ _ => rfl) t).2
      have ei : idx m t = t := by unfold idx; rw [if_pos ht]
      rw [ei] at e
      have := hO.cellAt t (by omega)
      rw [this]
      have := flat_at ys 1 t 0 _ y1 (show ys[t]? = some (ys.getD t []) from by rw [List.getD, List.getElem?_eq_getElem (by omega)]; rfl) (by omega)
      rw [Nat.mul_one, Nat.add_zero] at this
      rw [this, e]; rfl
    have hfr : ∀ t, w.frozen? ⟨blk, t, none⟩ = false := by
      intro t
      rcases hO.2 with ⟨e, _⟩ | ⟨g, cap, cur, e, _, hh, _⟩
      · cases e
      · injection e with e1; injection e1 with e1; injection e1 with e1
        subst e1
        simp [World.frozen?, hh]
    let d : Array Nat := (List.range m).toArray
    have hds : d.size = m := by simp [d]
    have hd : ∀ j, j < m → d[j]! = j := fun j hj => by simp [d, getElem!_pos, hj]
    have hH : Sort.Holds enc w blk 0 d := fun j hj => by
      rw [hds] at hj
      rw [Nat.zero_add, hd j hj]
      exact ⟨hcell j hj, hfr j⟩
    have hsw : ∀ (k : Nat) (os : Array Obj) (dk : Array Nat), dk.size = d.size → (∀ t, t < m → (sortWorld enc w blk 0 k dk os).cell? ⟨blk, t, none⟩ = some (enc dk[t]!)) ∧ (∀ g, g < w.heap.size → g ≠ blk → (sortWorld enc w blk 0 k dk os).heap[g]? = w.heap[g]?) ∧ w.heap.size ≤ (sortWorld enc w blk 0 k dk os).heap.size := by
      intro k os dk hs
      refine ⟨fun t ht => ?_, fun g g1 g2 => ?_, ?_⟩
      · unfold sortWorld
        rw [Sort.cell?_grow _ _ _ (by rw [Sort.size_putRow]; exact hbl)]
        have := Sort.cell?_putRow enc (Sort.ahead w k) blk 0 d dk (Sort.holds_ahead _ _ _ _ _ _ hH) hs t (by omega)
        rwa [Nat.zero_add] at this
      · unfold sortWorld
        rw [Sort.heap_grow_old _ _ (by rw [Sort.size_putRow]; exact g1), putRow_heap _ _ _ _ _ _ g2]; rfl
      · unfold sortWorld; rw [Sort.size_grow, Sort.size_putRow]; exact Nat.le_add_right _ _
    have hless : LessReads Try.prog 127 #[.pointer (some ⟨z, 0, none⟩)] enc lt blk 0 d.size w := by
      intro k os dk hs i j hi hj
      obtain ⟨s1, s2, s3⟩ := hsw k os dk hs
      rw [hds] at hi hj
      have := lessQ blk z m c (sortWorld enc w blk 0 k dk os) P q (fun t => dk[t]!) (by rw [World.cell?_of_block (a := ⟨z, 0, none⟩) (s2 z hzl hzb)]; exact hz) s1 (fun t => (hq _ s3 s2 t).1) i j hi hj
      exact this.mono fun e w' ⟨h1, h2⟩ => ⟨h1, 0, h2.symm⟩
    have hO2 : Sort.SWO lt := ⟨fun x => by simp [lt], fun x y z a b => by simp [lt] at a b ⊢; omega, fun x y z a b => by simp [lt] at a b ⊢; omega⟩
    have hS := Any.sort_Slice_sorted Try.sj6 60 61 siT siE (by kernel_rfl) (by kernel_rfl) (by kernel_rfl) (by kernel_rfl) 22 (fun _ => by kernel_rfl) (by kernel_rfl) (fun _ => by kernel_rfl) enc (fun _ => rfl) lt hO2 127 #[.pointer (some ⟨z, 0, none⟩)]
      (enters_of Try.func127 (by kernel_rfl) rfl) blk 0 c d (by omega) (by omega) 139 (by rw [siK _ (by omega)]; kernel_rfl) true
      (fun args W => run_callFunc_extern Try.func139 (by kernel_rfl) (by kernel_rfl) (by kernel_rfl) (e := Extern.ReflectliteSwapper.swap true) (by kernel_rfl) args W) w hless hH hbl
    rw [hds] at hS
    change Calls Try.prog 104 _ _ _ at hS
    refine hS.mono ?_
    rintro e w' ⟨rfl, d', n, os, hp, hso, rfl⟩
    obtain ⟨s1, s2, s3⟩ := hsw n os d' hp.1
    have hd's : d'.size = m := by rw [hp.1, hds]
    refine ⟨rfl, d'.toList.map q, ?_, ?_, ?_, ⟨rfl, rfl, rfl, s3, s2⟩⟩
    · have hpp := hp.2.2
      have e1 : d'.extract 0 m = d' := by rw [← hd's]; simp
      have e2 : d.extract 0 m = d := by rw [← hds]; simp
      rw [e1, e2] at hpp
      have := hpp.map q
      have e3 : d.toList.map q = L := by
        apply List.ext_getElem
        · simp [d]; omega
        · intro i i1 i2
          have hi : i < m := by omega
          simp only [d, List.getElem_map, List.getElem_range, q]
          unfold idx
          rw [if_pos hi, List.getD, List.getElem?_eq_getElem i2]; rfl
      rwa [e3] at this
    · rw [List.pairwise_map, List.pairwise_iff_getElem]
      intro i j hi hj hij
      have := hso i j (Nat.zero_le _) hij (by simpa [hd's] using hj)
      have hi2 : i < d'.size := by simpa using hi
      have hj2 : j < d'.size := by simpa using hj
      rw [getElem!_pos d' j hj2, getElem!_pos d' i hi2] at this
      simpa [lt] using this
    · have hfin : ∀ W, (sortWorld enc w blk 0 n d' os).heap.size ≤ W.heap.size → (∀ g, g < (sortWorld enc w blk 0 n d' os).heap.size → Al g → W.heap[g]? = (sortWorld enc w blk 0 n d' os).heap[g]?) → RdL FR 1 W (some ⟨blk, 0, none⟩) m (d'.toList.map q) := by
        intro W a b
        refine ⟨by simp [hd's], fun _ => ⟨blk, 0, rfl, by omega, fun k x hx => ?_⟩⟩
        have hk : k < m := by have := (List.getElem?_eq_some_iff.1 hx).1; simpa [hd's] using this
        have hk2 : k < d'.size := by omega
        have hxe : x = q d'[k]! := by
          rw [List.getElem?_map, List.getElem?_eq_getElem (by simpa using hk2)] at hx
          simp only [Option.map_some, Option.some.injEq] at hx
          rw [← hx, getElem!_pos d' k hk2]; simp
        refine ⟨[enc d'[k]!], rfl, fun j u hu => ?_, P d'[k]!, rfl, ?_, ?_⟩
        · match j, hu with
          | 0, hu =>
            simp only [List.getElem?_cons_zero, Option.some.injEq] at hu
            rw [← hu, Nat.zero_add, Nat.mul_one, Nat.add_zero, World.cell?_of_block (a := ⟨blk, k, none⟩) (b blk (by omega) trivial)]
            exact s1 k hk
        · have hr := (hq W (by omega) (fun g g1 g2 => (b g (by omega) trivial).trans (s2 g g1 g2)) d'[k]!).1
          obtain ⟨_, _, _, _, _, _, _, _, hA, _⟩ := hr
          exact hA.lt
        · rw [hxe]
          exact (hq W (by omega) (fun g g1 g2 => (b g (by omega) trivial).trans (s2 g g1 g2)) d'[k]!).1
      exact hfin
  · obtain rfl : m = 1 := by omega
    have hS := Any.sort_Slice_tiny Try.sj6 60 61 siT siE (by kernel_rfl) (by kernel_rfl) (by kernel_rfl) (by kernel_rfl) 22 (fun _ => by kernel_rfl) (some ⟨blk, 0, none⟩) 1 c (by omega) 138 (by kernel_rfl) (.func 127) #[] #[.pointer (some ⟨z, 0, none⟩)] w
    change Calls Try.prog 104 _ _ _ at hS
    refine hS.mono ?_
    rintro e w' ⟨rfl, os, rfl⟩
    have hkp : Kp w.heap.size blk w (Sort.grow w os) := ⟨rfl, rfl, rfl, by rw [Sort.size_grow]; exact Nat.le_add_right _ _, fun g g1 _ => Sort.heap_grow_old _ _ g1⟩
    refine ⟨rfl, L, List.Perm.refl _, ?_, ?_, hkp⟩
    · match L, hm with
      | [x], _ => simp
    · exact (h.rdl hm (fun _ _ => trivial) (fun _ _ => trivial)).step hkp.size (fun g g1 _ => Sort.heap_grow_old _ _ g1)
end Go.Proofs.Ytpffffhgmhpkiaa
