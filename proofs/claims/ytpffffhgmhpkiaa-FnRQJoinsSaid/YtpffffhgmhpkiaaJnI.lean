/- QR codes: FnRQJoins: spec.RQCut. -/
import Derived.Test.YtpffffhgmhpkiaaJnH
import Derived.Deep.QuietTactic
import Derived.Deep.RegionHeld3
import Derived.BigQuiet
import Derived.BigRegion
namespace Go.Proofs.Ytpffffhgmhpkiaa
open Go.RowKit
set_option linter.unusedVariables false
set_option linter.unusedSimpArgs false

theorem ints_setN (l : List Nat) (k v : Nat) : (ints l).set k (.int .i64 (v : Nat)) = ints (l.set k v) := by simp [ints, List.map_set]
theorem ints_repl (n : Nat) : List.replicate n (Value.int .i64 0) = ints (List.replicate n 0) := by simp [ints]
theorem tmodN (z n : Nat) : (z : Int).tmod ((n : Int) + 1) = ((z % (n + 1) : Nat) : Int) := by
  rw [Int.tmod_eq_emod_of_nonneg (Int.natCast_nonneg z)]
  exact (Int.natCast_emod z (n + 1)).symm
theorem arrI {w : World} {g : Nat} {P : List Nat} (h : Arr w g 3 (ints P)) (k : Nat) (hk : k < P.length) : w.cell? ⟨g, k, none⟩ = some (.int .i64 (P.getD k 0 : Nat)) := (h.cell? k).trans (ints_rng P k hk)
theorem Arr.swap {w : World} {g k : Nat} {P : List Nat} (h : Arr w g 3 (ints P)) : Arr ((w.setCell ⟨g, k, none⟩ (.int .i64 (P.getD (k - 1) 0 : Nat))).setCell ⟨g, k - 1, none⟩ (.int .i64 (P.getD k 0 : Nat))) g 3 (ints (swp P k)) := by
  have := (h.set k (.int .i64 (P.getD (k - 1) 0 : Nat))).set (k - 1) (.int .i64 (P.getD k 0 : Nat))
  rwa [ints_setN, ints_setN] at this
section
variable {P : Program} {ops : Array Oper} {o : Oper} {a : Act} {α : Type} {F : World → List Value → α → Prop} {S : Nat → Prop}
/-- append of one element of sz cells, inside a region that draws its order. -/
theorem step_appL (w : World) {K : Act → World → Prop} {Q : Exit → Act → World → Prop} {X : Prop} (hgd : o.guard = none) (s x : Operand) (t : TypeId)
    (ho : o.op = .call { callee := .builtin .append, args := #[s, x], argTypes := #[t, t] })
    (B : Nat) (E : TypeId) (i : TypeInfo) (z : Value) (sz bytes : Nat) (ht : P.underlying t = some (.slice E)) (hi : P.info? E = some i) (hz : i.zero = some z)
    (hsize : i.size = sz) (hby : i.bytes = bytes) (hzs : z.cells.size = sz) (hs0 : 0 < sz) (v : Value) (L : List α) (hs : a.eval s = v) (hown : OwnL F sz S w B E v L)
    (ad : Addr) (c : Nat) (y : List Value) (q : α) (hx : a.eval x = .slice (some ad) 1 c) (hl : y.length = sz) (hr : ∀ j u, y[j]? = some u → w.cell? (ad.add j) = some u) (h1 : ∀ u ∈ y, u.oneCell' = true)
    (hq : On (offS S v) w (fun W => F W y q)) (h63 : L.length + 1 ≤ maxLen) (hbytes : (L.length + 1) * bytes ≤ 140737488355328) (hB : B ≤ w.heap.size)
    (h : ∀ v' w', OwnL F sz S w' B E v' (L ++ [q]) → w.grownBy w' v.ownBlock → (v'.ownBlock = v.ownBlock ∨ v'.ownBlock = some w.heap.size) → K (a.put o.dst v') w') :
    if Region.wanted o (yielded ops a.tmps) = true then Oper.wp P o a w K Q else X := by
  rw [if_pos (by simp [Region.wanted, hgd])]
  obtain ⟨ys, h0, hy, hO, hF⟩ := hown
  obtain ⟨v', w', hrun, h2, h3, _, h5⟩ := run_append_own_at (P := P) w B t o.type E i z sz bytes ht hi hz hsize hby hzs hs0 v L.length ys.flatten hO ad 1 c y (by omega) hr h1 h63 hbytes hB
  unfold Oper.wp execOp
  simp only [ho, resolve, invoke, builtin, Sem.run_bind, Sem.run_pure, Result.andThen_ok, List.map_toArray, List.map_cons, List.map_nil, hs, hx, hrun]
  exact h v' w' (OwnL.app h0 hy hF hq hl h2 h3 h5) h3 h5
end
/-- Two cells of a block, kept. -/
theorem keep2_alloc {w w0 : World} {B g i : Nat} {u v : Value} (h : w.cell? ⟨g, i, none⟩ = some u ∧ w.cell? ⟨g, i + 1, none⟩ = some v ∧ g < w.heap.size ∧ Below B w0 w) (hB : B ≤ w.heap.size) (o : Obj) :
    (w.alloc o).cell? ⟨g, i, none⟩ = some u ∧ (w.alloc o).cell? ⟨g, i + 1, none⟩ = some v ∧ g < (w.alloc o).heap.size ∧ Below B w0 (w.alloc o) :=
  ⟨(World.cell?_of_block (a := ⟨g, i, none⟩) (Below.heap_alloc w o g h.2.2.1)).trans h.1, (World.cell?_of_block (a := ⟨g, i + 1, none⟩) (Below.heap_alloc w o g h.2.2.1)).trans h.2.1, by rw [World.size_alloc]; omega, h.2.2.2.alloc hB o⟩
theorem keep2_grown {w w' w0 : World} {B g i : Nat} {u v : Value} {row : Option Nat} (h : w.cell? ⟨g, i, none⟩ = some u ∧ w.cell? ⟨g, i + 1, none⟩ = some v ∧ g < w.heap.size ∧ Below B w0 w) (hg : w.grownBy w' row) (hne : some g ≠ row) (hB : B ≤ w.heap.size) (hr : ∀ k, row = some k → B ≤ k) :
    w'.cell? ⟨g, i, none⟩ = some u ∧ w'.cell? ⟨g, i + 1, none⟩ = some v ∧ g < w'.heap.size ∧ Below B w0 w' :=
  ⟨(World.cell?_of_block (a := ⟨g, i, none⟩) (hg.block g h.2.2.1 hne)).trans h.1, (World.cell?_of_block (a := ⟨g, i + 1, none⟩) (hg.block g h.2.2.1 hne)).trans h.2.1, Nat.lt_of_lt_of_le h.2.2.1 hg.size, h.2.2.2.grown hg hB hr⟩
theorem fbq {w w5 : World} {B n c sz : Nat} {A : Option Addr} {s : List Nat} {C : Nat} {v : Value} {α : Type} {F : World → List Value → α → Prop} {e : TypeId} {L : List α} (hn : n = s.length) (hR : Rd w5 A n (u8s s)) (hc : n ≤ c) (hA : ∀ a, A = some a → w.heap.size ≤ a.block) (hB : B ≤ w.heap.size) (hO : OwnL F sz (Fro B) w C e v L) :
    On (offS (Fro B) v) w5 (fun W => FB W [.slice A n c] s) :=
  FB.on hn hR hc (fun h0 a ha => by
    have h1 := hA a ha
    refine ⟨Nat.le_trans hB h1, fun h2 => ?_⟩
    have h3 := (hO.lt a.block h2).2
    omega)
def CutOut (s : List Nat) (N : Nat) (w : World) (e : Ending) (w' : World) : Prop :=
  ∃ A c P, e = .returned (.slice A N c) ∧ N ≤ c ∧ Plc P N s.length ∧ (∀ i, i < N → P.getD i 0 ≤ P.getD (i + 1) 0) ∧ On (Fro w.heap.size) w' (fun W => RdL FB 1 W A N ((List.range N).map (cutAt s P))) ∧ Below w.heap.size w w'
set_option maxRecDepth 20000 in
set_option maxHeartbeats 8000000 in
theorem cutQ (s : List Nat) (A1 A2 : Option Addr) (n n2 c1 c2 N : Nat) (zs : List Nat) (w : World) (hR1 : Rd w A1 n (u8s s)) (hn : n ≤ 2147483648) (hc1 : n ≤ c1) (hR2 : Rd w A2 n2 (u8s zs)) (h8 : ∀ x ∈ zs, x < 256) (hn2 : n2 ≤ 2147483648) (hN1 : 1 ≤ N) (hN : N ≤ 16) :
    Calls Try.prog 7 #[.slice A1 n c1, .slice A2 n2 c2, .int .i64 N] w (CutOut s N w) := by
  obtain ⟨i3, gi, gz0, gz1, gz2⟩ := info_of info3
  obtain ⟨i5, hi5, hz0, hz1, hz2⟩ := info_of info5
  obtain ⟨i22, yi, yz0, yz1, yz2⟩ := info_of info22
  obtain ⟨M, hM⟩ : ∃ M, M = N + 1 := ⟨_, rfl⟩
  have hMi : (N : Int) + 1 = (M : Int) := by omega
  have hmk := fun W => run_make (P := Try.prog) W 31 3 i3 (.int .i64 0) Try.underlying31 gi gz0 .i64 .i64 (M : Int) (M : Int) (by omega) (by omega) (by rw [gz2]; omega) (by omega)
  simp only [gz1] at hmk
  have hNM : (N : Int) < (M : Int) := by omega
  have hsl : s.length = n := by have := hR1.1; rwa [u8s_len] at this
  have HSL := hid hsl
  have HR1 := hid hR1
  have HR2 := hid hR2
  have H8 := hid h8
  have HMM := hid hM
  have A0 := Arr.made w 3 (.int .i64 0) M
  rw [ints_repl] at A0
  have fz := A0.frozen N
  have hcN := arrI A0 N (by rw [List.length_replicate]; omega)
  have HA := hid (show Arr (w.alloc (.cells ((madeCells #[.int .i64 0] M).setIfInBounds N (.int .i64 (n : Nat))) 3)) w.heap.size 3 (ints ((List.replicate (N + 1) 0).set N n)) from by
    have := Arr.of_new w 3 ((madeCells #[.int .i64 0] M).setIfInBounds N (.int .i64 (n : Nat)))
    have e2 : (madeCells #[.int .i64 0] M).toList = ints (List.replicate M 0) := by
      have h2 := Arr.of_new w 3 (madeCells #[.int .i64 0] M)
      unfold Arr at h2 A0
      rw [h2] at A0
      simp only [Option.some.injEq, Obj.cells.injEq, Array.toArray_toList] at A0
      rw [A0.1]
    rw [Array.toList_setIfInBounds, e2, ints_setN] at this
    rwa [← hM])
  have HP := hid (Plc.start N n hN1)
  have HB := hid ((Below.refl w.heap.size w).alloc (Nat.le_refl _) (.cells ((madeCells #[.int .i64 0] M).setIfInBounds N (.int .i64 (n : Nat))) 3))
  clear hR1 hR2 h8 hM A0 hsl
  go_enter Try.func7, Try.ntmps7
  go_wp2_with fail
  clear hmk hMi hNM fz hcN
  obtain ⟨g, hg⟩ : ∃ g, g = w.heap.size := ⟨_, rfl⟩
  have HG := hid hg
  rw [← hg] at HA HB ⊢
  generalize w.alloc (.cells ((madeCells #[.int .i64 0] M).setIfInBounds N (.int .i64 (n : Nat))) 3) = w1 at *
  generalize (List.replicate (N + 1) 0).set N n = P0 at *
  clear hg
  go_loopw [8] (fun iv wr => ∃ (i : Nat) (P : List Nat), 1 ≤ i ∧ i ≤ N ∧ iv = .int .i64 (i : Nat) ∧ Hid (Plc P N n) ∧ Hid (Arr wr g 3 (ints P)) ∧ Hid (Below g w wr)) (fun iv _ => N - (intOf iv).toNat)
  case atStart => exact ⟨1, P0, by omega, by omega, rfl, HP, HA, HB⟩
  case round =>
    clear HP HA HB
    obtain ⟨i, P, hi1, hiN, rfl, HP, HA, HB⟩ := hrel
    by_cases hlt : i < N
    · have hlt' : (i : Int) < (N : Int) := by omega
      by_cases hin : i - 1 < n2
      · have hin' : (i : Int) - 1 < (n2 : Int) := by omega
        obtain ⟨b0, o0, hA0, hb0, hcell0⟩ := (HR2.out.below (show Below w.heap.size w wr from by have := HB.out; rwa [HG.out] at this)).2 (by omega)
        subst hA0
        have hjz : i - 1 < (u8s zs).length := by rw [HR2.out.1]; exact hin
        have c0 := hcell0 (i - 1) hjz
        simp only [u8s, List.getElem_map] at c0
        have hjz2 : i - 1 < zs.length := by rwa [u8s_len] at hjz
        have hzz := H8.out _ (List.getElem_mem hjz2)
        generalize zs[i - 1]'hjz2 = z at c0 hzz
        have hw1 : wrap64 ((z : Nat) : Int) = (z : Int) := wrap64_nat _ (by omega)
        obtain ⟨v, hv⟩ : ∃ v, v = z % (n + 1) := ⟨_, rfl⟩
        have hw2 : (z : Int).tmod ((n : Int) + 1) = (v : Int) := by rw [hv]; exact tmodN z n
        have hvn : v ≤ n := by rw [hv]; exact Nat.le_of_lt_succ (Nat.mod_lt z (Nat.succ_pos n))
        have HP2 := hid (HP.out.set (k := i) (v := v) hi1 hlt hvn)
        have hpl := HP.out.len
        have ci := arrI HA.out i (by omega)
        have fzi := HA.out.frozen i
        have HA2 := hid (show Arr (wr.setCell ⟨g, i, none⟩ (.int .i64 (v : Nat))) g 3 (ints (P.set i v)) from by have := HA.out.set i (.int .i64 (v : Nat)); rwa [ints_setN] at this)
        have HB2 := hid (HB.out.setCell (p := ⟨g, i, none⟩) (Nat.le_refl _) (.int .i64 (v : Nat)))
        have e1 : (0 : Int) ≤ (i : Int) - 1 := by omega
        have e2 : ((i : Int) - 1).toNat = i - 1 := by omega
        have e3 : (i : Int) < (M : Int) := by have := HMM.out; omega
        clear hcell0 hjz hjz2 hzz hv hvn hpl
        go_wp2_with fail
        go_roundw
        case rel => first | exact ⟨i + 1, _, by omega, by omega, by go_num, HP2, HA2, HB2⟩ | ((repeat apply Exists.intro); exact ⟨⟨i + 1, _, by omega, by omega, rfl, HP2, HA2, HB2⟩, rfl⟩)
        case measure => first | (simp [intOf]; done) | (simp [intOf]; omega)
      · have hin' : ¬ (i : Int) - 1 < (n2 : Int) := by omega
        go_wp2_with fail
        go_roundw
        case rel => first | exact ⟨i + 1, _, by omega, by omega, by go_num, HP, HA, HB⟩ | ((repeat apply Exists.intro); exact ⟨⟨i + 1, _, by omega, by omega, rfl, HP, HA, HB⟩, rfl⟩)
        case measure => first | (simp [intOf]; done) | (simp [intOf]; omega)
    · obtain rfl : i = N := by omega
      have hlt' : ¬ (i : Int) < (i : Int) := by omega
      have HS0 := hid (show ∀ a b, 1 ≤ a → a < b → b ≤ 1 - 1 → P.getD a 0 ≤ P.getD b 0 from fun a b h1 h2 h3 => by omega)
      have HP1 := hid HP.out
      clear hlt
      go_wp2_with fail
      go_loopw [9] (fun iv wr => ∃ (j : Nat) (P : List Nat), 1 ≤ j ∧ j ≤ i ∧ iv = .int .i64 (j : Nat) ∧ Hid (Plc P i n) ∧ Hid (∀ a b, 1 ≤ a → a < b → b ≤ j - 1 → P.getD a 0 ≤ P.getD b 0) ∧ Hid (Arr wr g 3 (ints P)) ∧ Hid (Below g w wr)) (fun iv _ => i - (intOf iv).toNat)
      case atStart => exact ⟨1, P, by omega, by omega, rfl, HP1, HS0, HA, HB⟩
      case round =>
        clear HP HP1 HS0 HA HB hlt'
        obtain ⟨j, P, hj1, hji, rfl, HP, HS, HA, HB⟩ := hrel
        by_cases hlt : j < i
        · have hlt' : (j : Int) < (i : Int) := by omega
          have HS1 := hid (show Srt P j j from by have := srt_next HS.out; rwa [show j - 1 + 1 = j by omega] at this)
          go_wp2_with fail
          go_loopw [10] (fun kv wr => ∃ (k : Nat) (P : List Nat), 1 ≤ k ∧ k ≤ j ∧ kv = .int .i64 (k : Nat) ∧ Hid (Plc P i n) ∧ Hid (Srt P j k) ∧ Hid (Arr wr g 3 (ints P)) ∧ Hid (Below g w wr)) (fun kv _ => (intOf kv).toNat)
          case atStart => exact ⟨j, P, by omega, by omega, rfl, HP, HS1, HA, HB⟩
          case round =>
            clear HP HS HS1 HA HB
            obtain ⟨k, P, hk1, hkj, rfl, HP, HS, HA, HB⟩ := hrel
            have hpl := HP.out.len
            by_cases hk : 1 < k
            · have hk' : (1 : Int) < (k : Int) := by omega
              have ck := arrI HA.out k (by omega)
              have ck1 := arrI HA.out (k - 1) (by omega)
              have fk := HA.out.frozen k
              have fk1 := HA.out.frozen (k - 1)
              have e1 : IntKind.i64.wrap ((k : Int) - 1) = (k : Int) - 1 := IntWalk.i64_in _ (by omega)
              have e2 : (0 : Int) ≤ (k : Int) - 1 := by omega
              have e3 : ((k : Int) - 1).toNat = k - 1 := by omega
              have e4 : (k : Int) < (M : Int) := by have := HMM.out; omega
              have e5 : (k : Int) - 1 < (M : Int) := by have := HMM.out; omega
              by_cases hs : P.getD k 0 < P.getD (k - 1) 0
              · have HP2 := hid (HP.out.swp hk (by omega))
                have HS2 := hid (srt_swap HS.out hk hkj (by omega) hs)
                have HA2 := hid (fun (W : World) (h : Arr W g 3 (ints P)) => h.swap (k := k))
                have hs' : ((P.getD k 0 : Nat) : Int) < ((P.getD (k - 1) 0 : Nat) : Int) := by omega
                generalize P.getD k 0 = x at *
                generalize P.getD (k - 1) 0 = y at *
                clear hpl
                go_wp2_with fail
                go_quiet (fail)
                obtain ⟨wq, hwq⟩ : ∃ wq, wq = wr.drewN nq := ⟨_, rfl⟩
                rw [← hwq]
                have HAQ := hid (show Arr wq g 3 (ints P) from by rw [hwq]; exact HA.out.drewN nq)
                have HBQ := hid (show Below g w wq from by rw [hwq]; exact below_drewN HB.out nq)
                have hck : wq.cell? ⟨g, k, none⟩ = some (.int .i64 (x : Nat)) := by rw [hwq]; exact ck
                have hck1 : wq.cell? ⟨g, k - 1, none⟩ = some (.int .i64 (y : Nat)) := by rw [hwq]; exact ck1
                have hfk : wq.frozen? ⟨g, k, none⟩ = false := HAQ.out.frozen k
                have hfk1 : wq.frozen? ⟨g, k - 1, none⟩ = false := HAQ.out.frozen (k - 1)
                have hne : ¬ k = k - 1 := by omega
                have hne2 : ¬ k - 1 = k := by omega
                clear ck ck1 fk fk1 HA HB hwq
                go_wp2_with fail
                go_region
                have HA3 := hid ((HA2.out _ HAQ.out).drew)
                have HB3 := hid (show Below g w ((wq.setCell ⟨g, k, none⟩ (.int .i64 (y : Nat))).setCell ⟨g, k - 1, none⟩ (.int .i64 (x : Nat))).drew from ((HBQ.out.setCell (p := ⟨g, k, none⟩) (Nat.le_refl _) _).setCell (p := ⟨g, k - 1, none⟩) (Nat.le_refl _) _).drew)
                go_wp2_with fail
                go_roundw
                case rel => first | exact ⟨k - 1, _, by omega, by omega, by go_num, HP2, HS2, HA3, HB3⟩ | ((repeat apply Exists.intro); exact ⟨⟨k - 1, _, by omega, by omega, rfl, HP2, HS2, HA3, HB3⟩, rfl⟩)
                case measure => first | (simp [intOf]; done) | (simp [intOf]; omega)
              · have HS2 := hid (srt_done HS.out (.inr hs))
                have hs' : ¬ ((P.getD k 0 : Nat) : Int) < ((P.getD (k - 1) 0 : Nat) : Int) := by omega
                generalize P.getD k 0 = x at *
                generalize P.getD (k - 1) 0 = y at *
                clear hpl
                go_wp2_with fail
                go_quiet (fail)
                have HA3 := hid (HA.out.drewN nq)
                have HB3 := hid (below_drewN HB.out nq)
                have HS3 := hid (show ∀ a b, 1 ≤ a → a < b → b ≤ j + 1 - 1 → P.getD a 0 ≤ P.getD b 0 from fun a b h1 h2 h3 => HS2.out a b h1 h2 (by omega))
                clear HA HB
                go_wp2_with fail
                go_roundw
                case rel => first | exact ⟨j + 1, _, by omega, by omega, by go_num, HP, HS3, HA3, HB3⟩ | ((repeat apply Exists.intro); exact ⟨⟨j + 1, _, by omega, by omega, rfl, HP, HS3, HA3, HB3⟩, rfl⟩)
                case measure => first | (simp [intOf]; done) | (simp [intOf]; omega)
            · obtain rfl : k = 1 := by omega
              have HS3 := hid (show ∀ a b, 1 ≤ a → a < b → b ≤ j + 1 - 1 → P.getD a 0 ≤ P.getD b 0 from fun a b h1 h2 h3 => srt_done HS.out (.inl (by omega)) a b h1 h2 (by omega))
              clear hpl
              go_wp2_with fail
              go_quiet (fail)
              have HA3 := hid (HA.out.drewN nq)
              have HB3 := hid (below_drewN HB.out nq)
              clear HA HB
              go_wp2_with fail
              go_roundw
              case rel => first | exact ⟨j + 1, _, by omega, by omega, by go_num, HP, HS3, HA3, HB3⟩ | ((repeat apply Exists.intro); exact ⟨⟨j + 1, _, by omega, by omega, rfl, HP, HS3, HA3, HB3⟩, rfl⟩)
              case measure => first | (simp [intOf]; done) | (simp [intOf]; omega)
        · obtain rfl : j = i := by omega
          have hlt' : ¬ (j : Int) < (j : Int) := by omega
          have HSO := hid (HP.out.sorted HS.out)
          have HOL := hid (OwnL.nil (F := FB) (sz := 1) (S := Fro w.heap.size) wr w.heap.size 22)
          have HB0 := hid (show Below w.heap.size w wr from by have := HB.out; rwa [HG.out] at this)
          clear hlt
          go_wp2_with fail
          go_loopw [11, 12] (fun ov iv wx => ∃ (i : Nat), i ≤ j ∧ iv = .int .i64 (i : Nat) ∧ Hid (OwnL FB 1 (Fro w.heap.size) wx w.heap.size 22 ov ((List.range i).map (cutAt s P))) ∧ Hid (Arr wx g 3 (ints P)) ∧ Hid (Below w.heap.size w wx) ∧ Hid (ov.ownBlock ≠ some g) ∧ Hid (g < wx.heap.size)) (fun _ iv _ => j - (intOf iv).toNat)
          case atStart => exact ⟨0, by omega, rfl, HOL, HA, HB0, hid (by simp [Value.ownBlock]), hid HA.out.lt⟩
          case round =>
            clear HOL HA HB HB0
            obtain ⟨i, hi, rfl, HO, HA, HB, HNG, HGL⟩ := hrel
            by_cases hlt : i < j
            · have hlt' : (i : Int) < (j : Int) := by omega
              have hpl := HP.out.len
              have ci := arrI HA.out i (by omega)
              have ci1 := arrI HA.out (i + 1) (by omega)
              have hso := HSO.out i hlt
              have hle := HP.out.le (i + 1)
              have HCUT := hid (show (s.take (P.getD (i + 1) 0)).drop (P.getD i 0) = cutAt s P i from rfl)
              generalize P.getD i 0 = x at *
              generalize P.getD (i + 1) 0 = y at *
              have hbs := HB.out.size
              have e1 : IntKind.i64.wrap ((i : Int) + 1) = (i : Int) + 1 := IntWalk.i64_in _ (by omega)
              have e2 : (0 : Int) ≤ (i : Int) + 1 := by omega
              have e3 : ((i : Int) + 1).toNat = i + 1 := by omega
              have e4 : (i : Int) < (M : Int) := by have := HMM.out; omega
              have e5 : (i : Int) + 1 < (M : Int) := by have := HMM.out; omega
              have e6 : (x : Int) ≤ (y : Int) := by omega
              have e7 : (y : Int) ≤ (c1 : Int) := by omega
              obtain ⟨b, ob, hbo⟩ : ∃ b ob, 0 < n → A1 = some ⟨b, ob, none⟩ := by
                rcases Nat.eq_zero_or_pos n with h | h
                · exact ⟨0, 0, fun h2 => by omega⟩
                · obtain ⟨b, ob, e, _⟩ := HR1.out.2 h
                  exact ⟨b, ob, fun _ => e⟩
              have HTX := hid (fun (W : World) (A' : Option Addr) (h : x = y ∨ (Below w.heap.size w W ∧ A' = some ⟨b, ob + x, none⟩)) => show Rd W A' (y - x) (u8s (cutAt s P i)) from by
                rw [← HCUT.out]
                by_cases hxy : x = y
                · have e0 : (s.take y).drop x = [] := List.drop_eq_nil_of_le (by rw [List.length_take, HSL.out]; omega)
                  rw [e0, hxy, Nat.sub_self]
                  exact Rd.nil
                · rcases h with h | ⟨hW, rfl⟩
                  · exact absurd h hxy
                  · have hA := hbo (by omega)
                    have h1 := HR1.out.below hW
                    rw [hA] at h1
                    have h2 := (h1.take y hle).drop x hso
                    simp only [u8s, ← List.map_take, ← List.map_drop] at h2 ⊢
                    exact h2)
              have HCL := hid (show (cutAt s P i).length = y - x from by rw [← HCUT.out, List.length_drop, List.length_take, HSL.out]; omega)
              by_cases hxy : x = y
              · subst hxy
                have h00 : cutAt s P i = [] := List.eq_nil_of_length_eq_zero (by rw [HCL.out]; omega)
                clear hbo HTX hso
                rcases A1 with _ | a
                all_goals by_cases hxc : c1 = x
                all_goals (
                  have hgl := HGL.out
                  have S1 : ∀ W, W = (wr.alloc (.cells #[] 5)).drew → W.cell? ⟨g, i, none⟩ = some (.int .i64 (x : Nat)) ∧ W.cell? ⟨g, i + 1, none⟩ = some (.int .i64 (x : Nat)) ∧ g < W.heap.size ∧ Below w.heap.size w W := by
                    intro W hW
                    subst hW
                    have := keep2_alloc (o := .cells #[] 5) ⟨ci, ci1, HGL.out, HB.out⟩ hbs
                    exact ⟨this.1, this.2.1, this.2.2.1, this.2.2.2.drew⟩
                  have hb5 : Below wr.heap.size wr (wr.alloc (.cells #[] 5)) := (Below.refl wr.heap.size wr).alloc (Nat.le_refl _) (.cells #[] 5)
                  have hbs5 := Nat.le_trans hbs hb5.size
                  have HO5 := hid (HO.out.below hb5 (Nat.le_refl _))
                  have HQ5 := hid (show On (offS (Fro w.heap.size) _) (wr.alloc (.cells #[] 5)) (fun W => FB W [.slice (some ⟨wr.heap.size, 0, none⟩) 0 0] (cutAt s P i)) from fbq (n := 0) (by rw [h00]; rfl) (by rw [h00]; exact Rd.nil) (Nat.le_refl _) (fun a ha => by injection ha with ha; subst ha; exact Nat.le_refl _) hbs HO.out)
                  have SZ : w.heap.size ≤ ((wr.alloc (.cells #[] 5)).alloc (.cells #[.slice (some ⟨wr.heap.size, 0, none⟩) 0 0] 22)).heap.size := by rw [World.size_alloc]; omega
                  clear h00 e6
                  go_wp2_with fail
                  go_region_held3 (fun w' => w'.cell? ⟨g, i, none⟩ = some (.int .i64 (x : Nat)) ∧ w'.cell? ⟨g, i + 1, none⟩ = some (.int .i64 (x : Nat)) ∧ g < w'.heap.size ∧ Below w.heap.size w w')
                    (first
                    | exact ⟨ci, ci1, HGL.out, HB.out.drew⟩
                    | exact ⟨ci, ci1, HGL.out, HB.out⟩
                    | exact S1 _ rfl
                    | exact keep2_alloc (S1 _ rfl) hbs5 _
                    | exact keep2_grown (keep2_alloc (S1 _ rfl) hbs5 _) hg7 (fun e => HNG.out e.symm) SZ (fun k e => (HO.out.lt k e).1))
                    (first
                    | (refine step_appL (F := FB) (S := Fro w.heap.size) _ (by rfl) _ _ 23 (by rfl) w.heap.size 22 i22 _ 1 24 Try.underlying23 yi yz0 yz1 yz2 rfl (by omega) _ ((List.range i).map (cutAt s P)) (by rfl) (HO5.out.alloc _).drew ⟨wr.heap.size + 1, 0, none⟩ 1 [.slice (some ⟨wr.heap.size, 0, none⟩) 0 0] (cutAt s P i) (by rfl) rfl (cell_new (wr.alloc (.cells #[] 5)) #[.slice (some ⟨wr.heap.size, 0, none⟩) 0 0] 22 (wr.heap.size + 1) (by rw [World.size_alloc])) (by simp [Value.oneCell']) (HQ5.out.alloc _).drew (by rw [List.length_map, List.length_range]; simp only [maxLen]; omega) (by rw [List.length_map, List.length_range]; omega) SZ ?_; intro v7 w7 hO7 hg7 ho7))
                  have HO8 := hid (show OwnL FB 1 (Fro w.heap.size) w7 w.heap.size 22 v7 ((List.range (i + 1)).map (cutAt s P)) from by rw [List.range_succ, List.map_append]; exact hO7)
                  have HA8 := hid ((((HA.out.below hb5 HGL.out).alloc (.cells #[.slice (some ⟨wr.heap.size, 0, none⟩) 0 0] 22)).drew).grown hg7 (fun e => HNG.out e.symm))
                  have HB8 := hid ((((HB.out.trans (hb5.mono hbs)).alloc hbs5 (.cells #[.slice (some ⟨wr.heap.size, 0, none⟩) 0 0] 22)).drew).grown hg7 SZ (fun k e => (HO.out.lt k e).1))
                  have HNG8 := hid (show v7.ownBlock ≠ some g from by
                    rcases ho7 with e | e
                    · rw [e]; exact HNG.out
                    · intro e2
                      rw [e] at e2
                      have e3 : some ((wr.alloc (.cells #[] 5)).alloc (.cells #[.slice (some ⟨wr.heap.size, 0, none⟩) 0 0] 22)).heap.size = some g := e2
                      rw [World.size_alloc, World.size_alloc] at e3
                      injection e3 with e3; omega)
                  have HGL8 := hid HA8.out.lt
                  clear hb5 HO5 HQ5 hO7 hg7 ho7 S1 SZ
                  go_wp2_with fail
                  try subst hxc
                  go_roundw
                  case rel => first | exact ⟨i + 1, by omega, by go_num, HO8, HA8, HB8, HNG8, HGL8⟩ | ((repeat apply Exists.intro); exact ⟨⟨i + 1, by omega, rfl, HO8, HA8, HB8, HNG8, HGL8⟩, rfl⟩)
                  case measure => first | (simp [intOf]; done) | (simp [intOf]; omega))
              · have hA1 := hbo (by omega)
                subst hA1
                have hxc : ¬ c1 = x := by omega
                clear hbo
                go_wp2_with fail
                have hgl := HGL.out
                have S1 : ∀ W, W = (wr.alloc (.cells #[] 5)).drew → W.cell? ⟨g, i, none⟩ = some (.int .i64 (x : Nat)) ∧ W.cell? ⟨g, i + 1, none⟩ = some (.int .i64 (y : Nat)) ∧ g < W.heap.size ∧ Below w.heap.size w W := by
                  intro W hW
                  subst hW
                  have := keep2_alloc (o := .cells #[] 5) ⟨ci, ci1, HGL.out, HB.out⟩ hbs
                  exact ⟨this.1, this.2.1, this.2.2.1, this.2.2.2.drew⟩
                go_region_held3 (fun w' => w'.cell? ⟨g, i, none⟩ = some (.int .i64 (x : Nat)) ∧ w'.cell? ⟨g, i + 1, none⟩ = some (.int .i64 (y : Nat)) ∧ g < w'.heap.size ∧ Below w.heap.size w w')
                  (first
                  | exact ⟨ci, ci1, HGL.out, HB.out.drew⟩
                  | exact ⟨ci, ci1, HGL.out, HB.out⟩
                  | exact S1 _ rfl
                  | exact S5
                  | exact keep2_alloc S5 (Nat.le_trans hbs hb5.size) _
                  | exact keep2_grown (keep2_alloc S5 (Nat.le_trans hbs hb5.size) _) hg7 (fun e => HNG.out e.symm) (Nat.le_trans (Nat.le_trans hbs hb5.size) (by rw [World.size_alloc]; exact Nat.le_succ _)) (fun k e => (HO.out.lt k e).1))
                  (first
                  | (refine step_app _ (by rfl) _ _ 22 (by rfl) wr.heap.size 5 i5 _ 1 Try.underlying22 hi5 hz0 hz1 hz2 rfl _ [] (by rfl) (Own.lit0 wr 5).drew _ (y - x) _ (u8s (cutAt s P i)) (by rfl) (HTX.out _ _ (by first | exact .inl hxy | exact .inr ⟨(HB.out.alloc hbs _).drew, rfl⟩)) (u8s_one _) (by simp [maxLen]; omega) (by simp; omega) (by show _ ≤ (wr.alloc _).heap.size; rw [World.size_alloc]; omega) ?_; intro v5 w5 hO5 hg5 ho5; obtain ⟨A5, c5, hv5, hR5, hc5⟩ := hO5.form; rw [List.nil_append, u8s_len, HCL.out] at hv5 hR5 hc5; subst hv5; have hb5 : Below wr.heap.size wr w5 := (((Below.refl wr.heap.size wr).alloc (Nat.le_refl _) (.cells #[] 5)).drew).grown hg5 (by show _ ≤ (wr.alloc _).heap.size; rw [World.size_alloc]; omega) (by intro k e; have e : some wr.heap.size = some k := e; injection e with e; omega); have S5 := keep2_grown (S1 _ rfl) hg5 (by intro e; have e : some g = some wr.heap.size := e; injection e; omega) (by show _ ≤ (wr.alloc _).heap.size; rw [World.size_alloc]; omega) (by intro k e; have e : some wr.heap.size = some k := e; injection e; omega); have HO5 := hid (HO.out.below hb5 (Nat.le_refl _)); have HQ5 := hid (fbq HCL.out.symm hR5 hc5 (fun a ha => (hO5.lt a.block (by rw [ha]; rfl)).1) hbs HO.out))
                  | (refine step_appL (F := FB) (S := Fro w.heap.size) _ (by rfl) _ _ 23 (by rfl) w.heap.size 22 i22 _ 1 24 Try.underlying23 yi yz0 yz1 yz2 rfl (by omega) _ ((List.range i).map (cutAt s P)) (by rfl) (HO5.out.alloc _) _ 1 [.slice A5 (y - x) c5] (cutAt s P i) (by rfl) rfl (cell_new w5 #[.slice A5 (y - x) c5] 22 _ rfl) (by simp [Value.oneCell']) (HQ5.out.alloc _) (by rw [List.length_map, List.length_range]; simp only [maxLen]; omega) (by rw [List.length_map, List.length_range]; omega) (by have := HB.out.size; have := hb5.size; first | (show _ ≤ (w5.alloc _).heap.size; rw [World.size_alloc]; omega) | omega) ?_; intro v7 w7 hO7 hg7 ho7))
                have HO8 := hid (show OwnL FB 1 (Fro w.heap.size) w7 w.heap.size 22 v7 ((List.range (i + 1)).map (cutAt s P)) from by rw [List.range_succ, List.map_append]; exact hO7)
                have HA8 := hid (((HA.out.below hb5 HGL.out).alloc (.cells #[.slice A5 (y - x) c5] 22)).grown hg7 (fun e => HNG.out e.symm))
                have hbs5 := Nat.le_trans hbs hb5.size
                have HB8 := hid (((HB.out.trans (hb5.mono hbs)).alloc hbs5 (.cells #[.slice A5 (y - x) c5] 22)).grown hg7 (Nat.le_trans hbs5 (by rw [World.size_alloc]; exact Nat.le_succ _)) (fun k e => (HO.out.lt k e).1))
                have HNG8 := hid (show v7.ownBlock ≠ some g from by
                  rcases ho7 with e | e
                  · rw [e]; exact HNG.out
                  · rw [e, World.size_alloc]; intro e2; injection e2 with e2; have := hb5.size; omega)
                have HGL8 := hid HA8.out.lt
                clear hg5 ho5 hR5 hc5 hO5 hb5 S5 HO5 HQ5 hO7 hg7 ho7 S1
                go_wp2_with fail
                go_roundw
                case rel => first | exact ⟨i + 1, by omega, by go_num, HO8, HA8, HB8, HNG8, HGL8⟩ | ((repeat apply Exists.intro); exact ⟨⟨i + 1, by omega, rfl, HO8, HA8, HB8, HNG8, HGL8⟩, rfl⟩)
                case measure => first | (simp [intOf]; done) | (simp [intOf]; omega)
            · obtain rfl : i = j := by omega
              have hlt' : ¬ (i : Int) < (i : Int) := by omega
              obtain ⟨A7, c7, hv7, hc7⟩ := HO.out.form
              rw [List.length_map, List.length_range] at hv7 hc7
              subst hv7
              clear hlt
              go_wp2_with fail
              go_ret
              exact ⟨A7, c7, P, rfl, hc7, by rw [HSL.out]; exact HP.out, HSO.out, HO.out.rdl (by simp) (fun _ h => h) (fun _ h => h), HB.out⟩
end Go.Proofs.Ytpffffhgmhpkiaa
