/- spec.dmBytes; append(l, s...) of a text. -/
import Derived.Test.YtfmjkflihnfneaaDoorDnE
import Derived.Lib.AppendStr
import Derived.Deep.LoopGhost
import Derived.Deep.CutRange
namespace Go.Proofs.YtfmjkflihnfneaaDoor
open Go.RowKit
set_option linter.unusedVariables false
set_option linter.unusedSimpArgs false

theorem info28s : (Tryd.prog.info? 5).map (fun i => (i.zero, i.size, i.bytes)) = some (some (.int .u8 0), 1, 1) := by kernel_rfl
theorem under9 : Tryd.prog.underlying 9 = some .string := by kernel_rfl
theorem strCells_of (l : List Nat) (h : ∀ c ∈ l, c < 256) : Lib.strCells (strOf l) = u8s l := by
  simp only [Lib.strCells, strOf, u8s, List.map_map, List.toList_toArray]
  refine List.map_congr_left fun c hc => ?_
  have := h c hc
  simp [Function.comp]
  omega
theorem Fr.app {w w' : World} {v v' : Value} (q : Nat) (hg : w.grownBy w' v.ownBlock) (ho : v'.ownBlock = v.ownBlock ∨ v'.ownBlock = some w.heap.size) : Fr q v w v' w' :=
  ⟨hg.size, fun g h1 h2 h3 => ⟨hg.block g h1 (fun e => h3 e.symm), by
    rcases ho with e | e
    · rw [e]; exact h3
    · rw [e]; intro h; cases h; omega⟩⟩
section
variable {ops : Array Oper} {o : Oper} {a : Act}
theorem wpList_apps (w : World) {rest : List Oper} {Q : Exit → Act → World → Prop} (hgd : o.guard = none) (s x : Operand)
    (ho : o.op = .call { callee := .builtin .append, args := #[s, x], argTypes := #[28, 9] })
    (B : Nat) (v : Value) (l : List Nat) (hs : a.eval s = v) (hown : Own w B 5 v (u8s l)) (t : List Nat) (ht : ∀ c ∈ t, c < 256) (st : ByteArray) (hst : st = strOf t) (hx : a.eval x = .string st)
    (hl : l.length + t.length ≤ 100000) (hB : B ≤ w.heap.size)
    (h : ∀ v' w', Own w' B 5 v' (u8s (l ++ t)) → w.grownBy w' v.ownBlock → wpList Tryd.prog ops Q rest (a.put o.dst v') w') : wpList Tryd.prog ops Q (o :: rest) a w := by
  obtain ⟨i5, hi, hz0, hz1, hz2⟩ := info_of info5
  subst hst
  have hlu := u8s_len l
  have hsz := strOf_size t
  obtain ⟨v', w', hrun, h2, h3, _⟩ := Lib.run_append_own_string (P := Tryd.prog) w B 28 9 o.type 5 i5 Tryd.underlying28 under9 hi hz0 hz1 hz2 v (u8s l).length (u8s l) hown (strOf t) (by rw [hlu, hsz]; simp [maxLen]; omega) (by rw [hlu, hsz]; omega) hB
  have hO : Own w' B 5 v' (u8s (l ++ t)) := by
    rw [strCells_of t ht] at h2
    have e : u8s (l ++ t) = u8s l ++ u8s t := by unfold u8s; rw [List.map_append]
    unfold Own
    rw [e, List.length_append, u8s_len t, ← hsz]
    exact h2
  refine wpList_plain hgd fun _ hK => ?_
  unfold Oper.wp execOp
  simp only [ho, resolve, invoke, builtin, Sem.run_bind, Sem.run_pure, Result.andThen_ok, List.map_toArray, List.map_cons, List.map_nil, hs, hx, hrun]
  exact hK _ _ (h v' w' hO h3)
end
theorem Own.lit' {w : World} {B : Nat} {e : TypeId} (cs : Array Value) (g n : Nat) (hg : g = w.heap.size) (hn : n = cs.size) (hb : B ≤ w.heap.size) (hm : cs.size ≤ maxLen) : Own (w.alloc (.cells cs e)) B e (.slice (some ⟨g, 0, none⟩) n n) cs.toList := by
  subst hg hn
  exact Own.lit cs hb hm
theorem lenW_lt (n : Nat) (h : n ≤ 1600) : ∀ c ∈ lenW n, c < 256 := by
  intro c hc
  unfold lenW at hc
  split at hc
  · rcases List.mem_cons.1 hc with e | e
    · omega
    · have := List.mem_singleton.1 e; omega
  · have := List.mem_singleton.1 hc; omega
theorem lenW_len (n : Nat) : (lenW n).length ≤ 2 := by unfold lenW; split <;> simp
theorem mix_snoc (f : Nat → Nat) (i : Nat) : (231 :: (List.range i).map f) ++ [f i] = 231 :: (List.range (i + 1)).map f := by
  rw [List.range_succ, List.map_append]; rfl
theorem u8s_at (l : List Nat) (i : Nat) (h : i < l.length) : (u8s l)[i]? = some (.int .u8 (l.getD i 0 : Nat)) := by
  simp [u8s, List.getD, List.getElem?_eq_getElem h]

set_option maxRecDepth 20000 in
set_option maxHeartbeats 4000000 in
theorem bytesM (s : List Nat) (h256 : ∀ c ∈ s, c < 256) (hl : s.length ≤ 1600) (bf : Nat) (hbf : bf ≤ 200000) (w : World) : Calls Tryd.prog 22 #[.string (strOf s), .int .i64 (bf : Nat)] w (BytesNew (byteW s bf) w) := by
  obtain ⟨i5, hi, hz0, hz1, hz2⟩ := info_of info5
  have hsz := strOf_size s
  obtain ⟨st, hst⟩ : ∃ st, st = strOf s := ⟨_, rfl⟩
  rw [← hst] at hsz ⊢
  have HST := hid hst
  obtain ⟨N, hN⟩ : ∃ N, N = s.length := ⟨_, rfl⟩
  have HN := hid hN
  rw [← hN] at hsz hl
  obtain ⟨L, hL⟩ : ∃ L, L = lenW N ++ s := ⟨_, rfl⟩
  have hLB : ∀ i, L.getD i 0 < 256 := fun i => by
    refine getD_lt L (fun c hc => ?_) i
    rw [hL] at hc
    rcases List.mem_append.1 hc with h | h
    · exact lenW_lt N hl c h
    · exact h256 c h
  have hLl : L.length ≤ 1602 := by rw [hL, List.length_append, ← hN]; have := lenW_len N; omega
  obtain ⟨f, hf⟩ : ∃ f : Nat → Nat, f = fun i => mix (L.getD i 0) (bf + 2 + i) := ⟨_, rfl⟩
  obtain ⟨M, hM⟩ : ∃ M, M = L.length := ⟨_, rfl⟩
  have HR := hid (show byteW s bf = 231 :: (List.range M).map f by rw [byteW, mixTo, ← hN, ← hL, hf, hM])
  generalize byteW s bf = R at *
  have HM := hid hM
  have HF := hid (fun i => show f i = mix (L.getD i 0) (bf + 2 + i) by rw [hf])
  have HL := hid hL
  have HLB := hid hLB
  have H256 := hid h256
  rw [← hM] at hLl
  have hM0 : 1 ≤ M := by rw [hM, hL]; unfold lenW; split <;> simp
  clear hst hN hL hf hM hLB h256
  have HL0 := hid (show lenW N = [N] ∨ lenW N = [N / 250 + 249, N % 250] from by unfold lenW; split <;> simp)
  have HLP := hid (show 249 < N → lenW N = [N / 250 + 249, N % 250] from fun h => if_pos h)
  have HLN := hid (show ¬ 249 < N → lenW N = [N] from fun h => if_neg h)
  have hlw := lenW_len N
  generalize lenW N = K at *
  go_enter Tryd.func22, Tryd.ntmps22
  go_upto_if 16 with fail
  go_cut [6] from 16 (fun lv wx => Hid (Own wx (w.heap.size + 1) 5 lv (u8s K)) ∧ Hid (Own wx w.heap.size 5 (.slice (some ⟨w.heap.size, 0, none⟩) 1 1) (u8s (231 :: (List.range 0).map f))) ∧ Hid (Below w.heap.size w wx) ∧ w.heap.size + 1 ≤ wx.heap.size)
  case first =>
    have HB1 := hid ((Below.refl w.heap.size w).alloc (Nat.le_refl _) (.cells #[.int .u8 231] 5))
    have HB2 := hid (HB1.out.alloc (by simp) (.cells #[.int .u8 ((N : Int) % 256)] 5))
    have HO1 := hid (Own.lit (w := w) (B := w.heap.size) (e := 5) #[.int .u8 231] (Nat.le_refl _) (by simp [maxLen]))
    have HO2 := hid (HO1.out.alloc (.cells #[.int .u8 ((N : Int) % 256)] 5))
    by_cases h249 : 249 < N
    case pos =>
      have h249' : (249 : Int) < (N : Int) := by omega
      have e1 : IntKind.u8.wrap ((N : Int) / 250 + 249) = (N : Int) / 250 + 249 := by rw [u8wrap]; omega
      have e2 : IntKind.u8.wrap ((N : Int) % 250) = (N : Int) % 250 := by rw [u8wrap]; omega
      go_wp2_with fail
      go_meet
      case rel =>
        rw [HLP.out h249]
        refine ⟨?_, hid (HO2.out.alloc _), hid (HB2.out.alloc (by simp; omega) _), by simp⟩
        have eu : u8s [N / 250 + 249, N % 250] = [.int .u8 ((N : Int) / 250 + 249), .int .u8 ((N : Int) % 250)] := by
          rw [show (N : Int) / 250 + 249 = ((N / 250 + 249 : Nat) : Int) from by omega, show (N : Int) % 250 = ((N % 250 : Nat) : Int) from by omega]; rfl
        rw [eu]
        exact hid (Own.lit' #[.int .u8 ((N : Int) / 250 + 249), .int .u8 ((N : Int) % 250)] (w.heap.size + 1 + 1) 2 (by simp) rfl (by simp) (by simp [maxLen]))
    case neg =>
      have h249' : ¬ (249 : Int) < (N : Int) := by omega
      go_wp2_with fail
      go_meet
      case rel =>
        rw [HLN.out h249]
        have eu : u8s [N] = [.int .u8 ((N : Int) % 256)] := by rw [show (N : Int) % 256 = (N : Nat) from by omega]; rfl
        rw [eu]
        exact ⟨hid (Own.lit' #[.int .u8 ((N : Int) % 256)] (w.heap.size + 1) 1 (by simp) rfl (by simp) (by simp [maxLen])), HO2, HB2, by simp⟩
  case rest =>
    obtain ⟨HOL, HO0, HB0, hw1⟩ := hcut
    have hbs := HB0.out.size
    clear HL0 HLP HLN
    go_wp2_with (at_builtin; refine wpList_apps _ rfl _ _ rfl (w.heap.size + 1) _ K rfl HOL.out s H256.out st HST.out rfl (by rw [← HN.out]; omega) hw1 ?_)
    intro v4 w4 hO4 hg4
    rw [← HL.out] at hO4
    have HO4 := hid hO4
    have HB4 := hid (HB0.out.grown hg4 hbs (fun k hk => by have := (HOL.out.lt k hk).1; omega))
    have hk9 := hid (HO0.out.keep hg4 (.inr (by intro h; have h9 : w.heap.size + 1 ≤ w.heap.size := (HOL.out.lt w.heap.size h.symm).1; omega)))
    clear hO4 hg4 HOL HO0 HB0
    have HO0 := hk9
    clear hk9
    obtain ⟨A4, c4, hv4, hRd4, _⟩ := HO4.out.form
    rw [u8s_len, ← HM.out] at hv4 hRd4
    have hA4 : ∀ ad, A4 = some ad → ad.block ≠ w.heap.size ∧ (Value.slice (some ⟨w.heap.size, 0, none⟩) 1 1).ownBlock ≠ some ad.block := fun ad hA => by
      have h9 := (Own.lt HO4.out ad.block (by rw [hv4, hA]; rfl)).1
      refine ⟨by omega, ?_⟩
      intro h; have h8 : w.heap.size = ad.block := by injection h
      omega
    subst hv4
    have HRD := hid hRd4
    have HA := hid hA4
    clear hRd4 hA4 HO4
    go_wp2_with fail
    go_loopw [5, 32] (fun ov iv wr => ∃ (i : Nat), i ≤ M ∧ iv = .int .i64 (i : Nat) ∧ Hid (Own wr w.heap.size 5 ov (u8s (231 :: (List.range i).map f))) ∧ Hid (Below w.heap.size w wr) ∧ Hid (Fr w.heap.size (Value.slice (some ⟨w.heap.size, 0, none⟩) 1 1) w4 ov wr)) (fun _ iv _ => M - (intOf iv).toNat)
    case atStart => exact ⟨0, by omega, rfl, HO0, HB4, hid (Fr.refl _ _ _)⟩
    case round =>
      clear HO0 HB4
      obtain ⟨i, hi1, rfl, HO, HB, HFr⟩ := hrel
      by_cases hlt : i < M
      case neg =>
        obtain rfl : i = M := by omega
        have hlt' : ¬ (i : Int) < (i : Int) := by omega
        obtain ⟨A9, c9, hv, _, _⟩ := HO.out.form
        subst hv
        go_wp2_with fail
        go_ret
        rw [HR.out]
        exact ⟨_, rfl, HO.out, HB.out⟩
      case pos =>
        have hlt' : (i : Int) < (M : Int) := by omega
        obtain ⟨b4, o4, hA, c0⟩ := (HRD.out.fr HFr.out HA.out).at_ i hlt
        subst hA
        rw [u8s_at L i (by rw [← HM.out]; exact hlt)] at c0
        have hc := HLB.out i
        have hfi := HF.out i
        generalize L.getD i 0 = c at *
        have hm9 : f i < 256 := by rw [hfi]; exact Nat.mod_lt _ (by decide)
        have HMX := hid (fun W => show Calls Tryd.prog 44 #[.int .u8 (c : Nat), .int .i64 ((bf : Int) + 2 + (i : Int))] W (fun e w' => e = .returned (.int .u8 (f i : Nat)) ∧ W = w') from by
          have e : (bf : Int) + 2 + (i : Int) = ((bf + 2 + i : Nat) : Int) := by omega
          rw [e, hfi]
          exact mixM c (bf + 2 + i) hc (by omega) W)
        have HSN := hid (mix_snoc f i)
        generalize f i = z at *
        obtain ⟨out, hout⟩ : ∃ out, out = 231 :: (List.range i).map f := ⟨_, rfl⟩
        have hol : (u8s out).length = i + 1 := by rw [u8s_len, hout]; simp
        rw [← hout] at HO HSN
        have m1 := hid (show (u8s out).length + 1 ≤ maxLen by rw [hol]; simp [maxLen]; omega)
        have m2 := hid (show ((u8s out).length + 1) * 1 ≤ 140737488355328 by rw [hol]; omega)
        have m3 := hid HB.out.size
        have hbs := HB.out.size
        clear hol hfi hout
        go_wp2_with (first | (go_at_call 44; ((with_reducible refine (HMX.out _).mono ?_); rintro e w' ⟨rfl, rfl⟩)) | (at_builtin; refine wpList_app _ rfl _ _ 28 rfl w.heap.size 5 i5 _ 1 Tryd.underlying28 hi hz0 hz1 hz2 rfl _ (u8s out) rfl (HO.out.alloc _) _ 1 1 [.int .u8 (z : Nat)] rfl (Rd.one' _ _ _ _ rfl) (by intro u hu; rw [List.mem_singleton.1 hu]; rfl) m1.out m2.out (Nat.le_trans m3.out (by simp)) ?_))
        intro v5 w5 hO5 hg5 hown5
        have HO5 := hid (show Own w5 w.heap.size 5 v5 (u8s (231 :: (List.range (i + 1)).map f)) from by rw [← HSN.out]; unfold u8s at hO5 ⊢; rw [List.map_append]; exact hO5)
        have HB5 := hid ((HB.out.alloc hbs (.cells #[.int .u8 (z : Nat)] 5)).grown hg5 (by simp; omega) (fun k hk => (HO.out.lt k hk).1))
        have HF5 := hid (HFr.out.trans (((Fr.refl w.heap.size _ wr).alloc (.cells #[.int .u8 (z : Nat)] 5)).trans (Fr.app _ hg5 (show v5.ownBlock = _ ∨ v5.ownBlock = some (wr.alloc (.cells #[.int .u8 (z : Nat)] 5)).heap.size from by simpa using hown5))))
        clear hO5 hg5 hown5 HO HB HFr
        go_wp2_with fail
        go_roundw
        case rel => exact ⟨i + 1, by omega, by go_num, HO5, HB5, HF5⟩
        case measure => simp [intOf]; omega
end Go.Proofs.YtfmjkflihnfneaaDoor
