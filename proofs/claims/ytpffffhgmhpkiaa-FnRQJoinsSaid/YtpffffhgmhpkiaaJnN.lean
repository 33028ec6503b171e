/- QR codes: FnRQJoins: impl.QRJoined. -/
import Derived.Test.YtpffffhgmhpkiaaJnM
import Derived.Test.YtpffffhgmhpkiaaJnI
namespace Go.Proofs.Ytpffffhgmhpkiaa
open Go.RowKit Go.ChangeMaps Go.MapKept
set_option linter.unusedVariables false
set_option linter.unusedSimpArgs false
/-- What is laid for a part, in a block of its own. -/
def PartAt (w : World) (g : Nat) (st : ByteArray) (R : Option Addr) (rn c : Nat) (G : Option Addr) (gn c' : Nat) (s : Int) : Prop := Arr w g 29 [.string st, .slice R rn c, .slice G gn c', .int .i64 s]
set_option maxRecDepth 20000 in
set_option maxHeartbeats 16000000 in
theorem joinedQ (M : List QP) (A : Option Addr) (n c : Nat) (w : World) (hR : On Al w (fun W => RdL FP 4 W A n M)) (hn : n ≤ 60) (ht : (M.flatMap (·.t)).length ≤ 17179869184) (hr : (M.flatMap (·.r)).length ≤ 17179869184) (hg : (M.flatMap (fun q => q.g.flatten)).length ≤ 17179869184)
    (h8 : ∀ q ∈ M, ∀ x ∈ q.t, x < 256) (hr1 : ∀ q ∈ M, 0 ≤ q.s → 1 ≤ q.r.length) (hgl : ∀ q ∈ M, q.g.length ≤ 17179869184 ∧ ∀ y ∈ q.g, y.length ≤ 17179869184) (hs : ∀ q ∈ M, -1 ≤ q.s ∧ q.s ≤ 1000) : Calls Try.prog 11 #[.slice A n c] w (JoinOut M w) := by
  obtain ⟨i61, gi, gz0, gz1, gz2⟩ := info_of info61
  obtain ⟨i5, hi5, hz0, hz1, hz2⟩ := info_of info5
  have hNL : M.length = n := hR.here.1
  have HNL := hid hNL
  have HR := hid hR
  have HT := hid ht
  have HRL := hid hr
  have HGL := hid hg
  have H8 := hid h8
  have HR1 := hid hr1
  have HGN := hid hgl
  have HSS := hid hs
  obtain ⟨Mc, hMc⟩ : ∃ Mc, Mc = M.map cv := ⟨_, rfl⟩
  have HMC := hid hMc
  clear hR ht hr hg h8 hr1 hgl hNL hs hMc
  go_enter Try.func11, Try.ntmps11
  go_wp2_with fail
  go_loopw [3, 17] (fun rv iv wr => ∃ (i : Nat), i ≤ n ∧ iv = .int .i64 (i : Nat) ∧ Hid (OwnL FR 1 (Fro w.heap.size) wr w.heap.size 61 rv (Mc.take i)) ∧ Hid (Below w.heap.size w wr)) (fun _ iv _ => n - (intOf iv).toNat)
  case atStart => exact ⟨0, by omega, rfl, hid (OwnL.nil _ _ _), hid (Below.refl _ _)⟩
  case round =>
    obtain ⟨i, hi, rfl, HO, HB⟩ := hrel
    have hbs := HB.out.size
    by_cases hlt : i < n
    · have hlt' : (i : Int) < (n : Int) := by omega
      obtain ⟨b, o, R, cR, G, cG, hA, hb, hiM, c0, c1, c2, c3, hrc, hOn⟩ := partOn HR.out i hlt
      subst hA
      have hqM : M.getD i qp0 ∈ M := by rw [List.getD, List.getElem?_eq_getElem hiM]; exact List.getElem_mem hiM
      have HTK := hid (show Mc.take (i + 1) = Mc.take i ++ [cv (M.getD i qp0)] from by rw [HMC.out, ← List.map_take, ← List.map_take, take_succD M i qp0 hiM, List.map_append]; rfl)
      have hs1 := HSS.out _ hqM
      have HGQ := hid (HGN.out _ hqM)
      have hrl : (M.getD i qp0).r.length ≤ 17179869184 := by
        have h1 := flat_len_take (fun q : QP => q.r) M (i + 1)
        rw [flatMap_take (fun q : QP => q.r) M i qp0 hiM, List.length_append] at h1
        have := HRL.out
        omega
      generalize M.getD i qp0 = q at *
      have d0 := (HB.out.cell (p := ⟨b, o + i * 4, none⟩) hb).trans c0
      have d1 := (HB.out.cell (p := ⟨b, o + i * 4 + 1, none⟩) hb).trans c1
      have d2 := (HB.out.cell (p := ⟨b, o + i * 4 + 2, none⟩) hb).trans c2
      have d3 := (HB.out.cell (p := ⟨b, o + i * 4 + 3, none⟩) hb).trans c3
      have HON := hid (hOn.below HB.out)
      obtain ⟨rl, hrl2⟩ : ∃ a, a = q.r.length := ⟨_, rfl⟩
      obtain ⟨gl, hgl2⟩ : ∃ a, a = q.g.length := ⟨_, rfl⟩
      obtain ⟨st, hst⟩ : ∃ a, a = strOf q.t := ⟨_, rfl⟩
      obtain ⟨s, hs⟩ : ∃ a, a = q.s := ⟨_, rfl⟩
      rw [← hrl2] at d1 hrl hrc HON
      rw [← hgl2] at d2 HON
      rw [← hst] at d0
      rw [← hs] at d3 hs1
      have HQ := hid (And.intro hrl2 (And.intro hgl2 (And.intro hst hs)))
      clear c0 c1 c2 c3 hOn hrl2 hgl2 hst hs hqM hiM hb
      go_wp2_with fail
      have HPA := hid (Arr.of_new wr 29 #[.string st, .slice R rl cR, .slice G gl cG, .int .i64 s])
      have HB1 := hid (HB.out.alloc hbs (.cells #[.string st, .slice R rl cR, .slice G gl cG, .int .i64 s] 29))
      have HBZ := hid ((Below.refl wr.heap.size wr).alloc (Nat.le_refl _) (.cells #[.string st, .slice R rl cR, .slice G gl cG, .int .i64 s] 29))
      have HON1 := hid (HON.out.below HBZ.out)
      generalize wr.alloc (.cells #[.string st, .slice R rl cR, .slice G gl cG, .int .i64 s] 29) = w1 at *
      obtain ⟨Z, hZ⟩ : ∃ Z, Z = wr.heap.size := ⟨_, rfl⟩
      rw [← hZ] at HPA HBZ ⊢
      have HZ := hid hZ
      have c0 : w1.cell? ⟨Z, 0, none⟩ = some (.string st) := HPA.out.cell? 0
      have c1 : w1.cell? ⟨Z, 1, none⟩ = some (.slice R rl cR) := HPA.out.cell? 1
      have hZl : Z < w1.heap.size := HPA.out.lt
      have hBZ1 := HBZ.out
      have HRDq := hid HON1.out.here.1
      clear d0 d1 d2 d3 hZ
      have nq := fun (W : World) (A5 : Option Addr) (c5 : Nat) => newQ st A5 none rl c5 0 0 11 W
      have S0 := And.intro c0 (And.intro c1 hBZ1)
      have S0d : w1.drew.cell? ⟨Z, 0, none⟩ = some (.string st) ∧ w1.drew.cell? ⟨Z, 1, none⟩ = some (.slice R rl cR) ∧ Below Z wr w1.drew := ⟨c0, c1, hBZ1.drew⟩
      go_region_held3 (fun w' => w'.cell? ⟨Z, 0, none⟩ = some (.string st) ∧ w'.cell? ⟨Z, 1, none⟩ = some (.slice R rl cR) ∧ Below Z wr w')
        (first
        | exact S0
        | exact S0d
        | exact S5
        | exact ⟨(hb6.cell (p := ⟨Z, 0, none⟩) hp5.lt).trans S5.1, (hb6.cell (p := ⟨Z, 1, none⟩) hp5.lt).trans S5.2.1, S5.2.2.trans (hb6.mono hz5)⟩)
        (first
        | (refine step_app _ (by rfl) _ _ 22 (by rfl) Z 5 i5 _ 1 Try.underlying22 hi5 hz0 hz1 hz2 rfl _ [] (by rfl) (Own.nil _ _ _) R rl cR (u8s q.r) (by rfl) HRDq.out (u8s_one _) (by simp only [List.length_nil, maxLen]; omega) (by simp only [List.length_nil]; omega) (Nat.le_of_lt hZl) ?_; intro v5 w5 hO5 hg5 ho5; have hb5 : Below Z wr w5 := hBZ1.drew.grown hg5 (Nat.le_of_lt hZl) (fun k e => by cases e); have hz5 : Z ≤ w5.heap.size := Nat.le_trans (Nat.le_of_lt hZl) hg5.size; have hp5 : Arr w5 Z 29 [.string st, .slice R rl cR, .slice G gl cG, .int .i64 s] := HPA.out.drew.grown hg5 (fun e => by cases e); have S5 : w5.cell? ⟨Z, 0, none⟩ = some (.string st) ∧ w5.cell? ⟨Z, 1, none⟩ = some (.slice R rl cR) ∧ Below Z wr w5 := ⟨hp5.cell? 0, hp5.cell? 1, hb5⟩; obtain ⟨A5, c5, hv5, hR5, hc5⟩ := hO5.form; rw [List.nil_append, u8s_len, ← HQ.out.1] at hv5 hR5; subst hv5)
        | (go_at_call 26; ((with_reducible refine (nq _ _ _).mono ?_); rintro e w6 ⟨p6, nb6, rfl, hA6, hp6, hb6⟩)))
      have HA6 := hid hA6
      have HQ1 := HQ.out
      have HB6 := hid (show Below wr.heap.size wr w6 from HZ.out ▸ hb5.trans (hb6.mono hz5))
      have HZ6 := hid (hp5.below hb6 hp5.lt)
      have hR6 := hid (hR5.below hb6)
      have hA5b := hid (show 0 < rl → ∀ a, A5 = some a → Fro wr.heap.size a.block from fun _ a ha => HZ.out ▸ (hO5.lt a.block (by rw [ha]; rfl)).1)
      have hA5c := hid (show ∀ a, A5 = some a → a.block < w5.heap.size from fun a ha => (hO5.lt a.block (by rw [ha]; rfl)).2)
      have hpZ : wr.heap.size ≤ p6 := by rw [← HZ.out]; omega
      have hpl := hA6 |> Arr.lt
      have HON6 := hid (HON.out.below HB6.out)
      have HLT := hid (show (Mc.take i).length = i from by rw [List.length_take, HMC.out, List.length_map]; have := HNL.out; omega)
      have hZ5 : Z < w5.heap.size := hp5.lt
      have z2 : w6.cell? ⟨Z, 2, none⟩ = some (.slice G gl cG) := HZ6.out.cell? 2
      have z3 : w6.cell? ⟨Z, 3, none⟩ = some (.int .i64 s) := HZ6.out.cell? 3
      have HW56 := hid hb6
      clear hA6 hb5 hz5 hp5 hR5 hc5 hO5 hb6 hg5 S0 S0d S5 nq c0 c1 HQ1
      by_cases hg0 : gl = 0
      · have HG0 := hid hg0
        have hg0' : ¬ (0 : Int) < (gl : Int) := by omega
        have HCG := hid (show (cv q).g = none from by unfold cv; rw [if_pos (by rw [← HQ.out.2.1]; exact hg0)])
        clear hg0
        by_cases hs0 : 0 ≤ s
        · have HCS := hid (show cv q = ⟨q.t, q.r, none, some s⟩ from by
            unfold cv
            rw [if_pos (by rw [← HQ.out.2.1]; exact HG0.out), if_pos (by rw [← HQ.out.2.2.2]; exact hs0), ← HQ.out.2.2.2])
          have pq := put1Q p6 9 (.iface 3 (.int .i64 s)) _ _ _ _ _ _ w6 HA6.out
          go_wp2_with fail
          refine pq.mono ?_
          rintro e w8 ⟨b8, hb8, rfl, hA8, hh8, hk8⟩
          have HBW := hid (show Below wr.heap.size wr w8 from HB6.out.trans (hk8.toBelow HB6.out.size hpZ))
          have HOF := hid (show On (Fro wr.heap.size) w8 (fun W => FR W [.pointer (some ⟨p6, 0, none⟩)] (cv q)) from by
            rw [HCS.out]
            refine ResAt.on (n := rl) HQ.out.1 (by rw [← HQ.out.2.2.1]; exact hA8) hpZ ?_ hA5b.out (.inr ⟨b8, _, _, rfl, hh8, rfl⟩) (fun b hb => ?_) (gv := none) (On.const trivial)
            · exact hk8.rd hR6.out (fun a ha => ⟨Nat.lt_of_lt_of_le (hA5c.out a ha) HW56.out.size, fun e => by have := hA5c.out a ha; omega⟩)
            · injection hb with hb
              injection hb with hb
              subst hb
              exact Nat.le_trans HB6.out.size hb8)
          clear pq hA8 hh8 hk8
          have HBE := hid (HB.out.trans (HBW.out.mono hbs))
          have HOE := hid (HO.out.below HBW.out (Nat.le_refl _))
          clear HBW
          go_wp2_with ((at_builtin; refine wpList_appK (F := FR) (S := Fro w.heap.size) _ rfl _ _ 60 rfl w.heap.size 61 i61 _ 1 8 Try.underlying60 gi gz0 gz1 gz2 rfl (by omega) _ (Mc.take i) rfl (HOE.out.alloc _) ⟨w8.heap.size, 0, none⟩ 1 [.pointer (some ⟨p6, 0, none⟩)] (cv q) rfl rfl (cell_new w8 #[.pointer (some ⟨p6, 0, none⟩)] 61 _ rfl) (by simp [Value.oneCell']) ((HOF.out.alloc _).offFro hbs (fun k hk => (HO.out.lt k hk).2)) (by rw [HLT.out]; simp only [maxLen]; omega) (by rw [HLT.out]; omega) (by rw [World.size_alloc]; have := HBE.out.size; omega) ?_))
          intro v9 w9 hO9 hg9 ho9
          have HN9 := hid (show OwnL FR 1 (Fro w.heap.size) w9 w.heap.size 61 v9 (Mc.take (i + 1)) from by rw [HTK.out]; exact hO9)
          have HB9 := hid (below_appL (HBE.out.alloc HBE.out.size (.cells #[.pointer (some ⟨p6, 0, none⟩)] 61)) (HOE.out.alloc _) hg9 (Nat.le_refl _) (by rw [World.size_alloc]; have := HBE.out.size; omega))
          clear hO9 hg9 ho9
          go_wp2_with fail
          go_roundw
          case rel => first | exact ⟨i + 1, by omega, by go_num, HN9, HB9⟩ | ((repeat apply Exists.intro); exact ⟨⟨i + 1, by omega, rfl, HN9, HB9⟩, rfl⟩)
          case measure => first | (simp [intOf]; done) | (simp [intOf]; omega)
        · have HCS := hid (show cv q = ⟨q.t, q.r, none, none⟩ from by
            unfold cv
            rw [if_pos (by rw [← HQ.out.2.1]; exact HG0.out), if_neg (by rw [← HQ.out.2.2.2]; exact hs0)])
          have HBW := hid HB6.out
          have HOF := hid (show On (Fro wr.heap.size) w6 (fun W => FR W [.pointer (some ⟨p6, 0, none⟩)] (cv q)) from by
            rw [HCS.out]
            exact ResAt.on (n := rl) HQ.out.1 (by rw [← HQ.out.2.2.1]; exact HA6.out) hpZ hR6.out hA5b.out (.inl ⟨rfl, rfl, rfl⟩) (fun b hb => by cases hb) (gv := none) (On.const trivial))
          have HBE := hid (HB.out.trans (HBW.out.mono hbs))
          have HOE := hid (HO.out.below HBW.out (Nat.le_refl _))
          clear HBW
          go_wp2_with ((at_builtin; refine wpList_appK (F := FR) (S := Fro w.heap.size) _ rfl _ _ 60 rfl w.heap.size 61 i61 _ 1 8 Try.underlying60 gi gz0 gz1 gz2 rfl (by omega) _ (Mc.take i) rfl (HOE.out.alloc _) ⟨w6.heap.size, 0, none⟩ 1 [.pointer (some ⟨p6, 0, none⟩)] (cv q) rfl rfl (cell_new w6 #[.pointer (some ⟨p6, 0, none⟩)] 61 _ rfl) (by simp [Value.oneCell']) ((HOF.out.alloc _).offFro hbs (fun k hk => (HO.out.lt k hk).2)) (by rw [HLT.out]; simp only [maxLen]; omega) (by rw [HLT.out]; omega) (by rw [World.size_alloc]; have := HBE.out.size; omega) ?_))
          intro v9 w9 hO9 hg9 ho9
          have HN9 := hid (show OwnL FR 1 (Fro w.heap.size) w9 w.heap.size 61 v9 (Mc.take (i + 1)) from by rw [HTK.out]; exact hO9)
          have HB9 := hid (below_appL (HBE.out.alloc HBE.out.size (.cells #[.pointer (some ⟨p6, 0, none⟩)] 61)) (HOE.out.alloc _) hg9 (Nat.le_refl _) (by rw [World.size_alloc]; have := HBE.out.size; omega))
          clear hO9 hg9 ho9
          go_wp2_with fail
          go_roundw
          case rel => first | exact ⟨i + 1, by omega, by go_num, HN9, HB9⟩ | ((repeat apply Exists.intro); exact ⟨⟨i + 1, by omega, rfl, HN9, HB9⟩, rfl⟩)
          case measure => first | (simp [intOf]; done) | (simp [intOf]; omega)
      · have hg0' : (0 : Int) < (gl : Int) := by omega
        have lq := listsQ q.g G gl cG w6 (HON6.out.imp (fun W h => h.2)) (by rw [HQ.out.2.1]; exact HGQ.out.1) HGQ.out.2
        have HGN0 := hid (show ¬ q.g.length = 0 from by rw [← HQ.out.2.1]; exact hg0)
        clear hg0
        go_wp2_with fail
        refine lq.mono ?_
        rintro e w7 ⟨A7, c7, rfl, hc7, hO7, hb7⟩
        have HA7 := hid (HA6.out.below hb7 hpl)
        have HZ7 := hid (HZ6.out.below hb7 HZ6.out.lt)
        have pq := put1Q p6 2 (.iface 23 (.slice A7 gl c7)) _ _ _ _ _ _ w7 HA7.out
        have HO7 := hid hO7
        have HB7 := hid hb7
        have hb7s := hb7.size
        clear lq hc7 hO7 hb7
        go_wp2_with fail
        refine pq.mono ?_
        rintro e w8 ⟨b8, hb8, rfl, hA8, hh8, hk8⟩
        have HA8 := hid hA8
        have HH8 := hid hh8
        have HK8 := hid hk8
        have z38 : w8.cell? ⟨Z, 3, none⟩ = some (.int .i64 s) := (World.cell?_of_block (a := ⟨Z, 3, none⟩) (hk8.block Z HZ7.out.lt (by omega))).trans (HZ7.out.cell? 3)
        have HB8 := hid (show Below wr.heap.size wr w8 from (HB6.out.trans (HB7.out.mono HB6.out.size)).trans (hk8.toBelow (Nat.le_trans HB6.out.size hb7s) hpZ))
        have HGV8 := hid (show On (Fro wr.heap.size) w8 (fun W => GV W (some (.slice A7 gl c7)) (some q.g)) from by
          have h1 := HO7.out.step hk8.size (fun g g1 g2 => hk8.block g g1 (fun e => by unfold Fro at g2; omega))
          refine (h1.mono (fun g _ g2 => Nat.le_trans HB6.out.size g2)).imp (fun W h => ⟨A7, c7, by rw [← HQ.out.2.1], by rw [← HQ.out.2.1]; exact h⟩))
        have hRd8 := hid (show Rd w8 A5 rl (u8s q.r) from hk8.rd (hR6.out.below HB7.out) (fun a ha => ⟨Nat.lt_of_lt_of_le (Nat.lt_of_lt_of_le (hA5c.out a ha) HW56.out.size) hb7s, fun e => by have := hA5c.out a ha; omega⟩))
        clear pq hA8 hh8 hk8
        by_cases hs0 : 0 ≤ s
        · have HCS := hid (show cv q = ⟨q.t, q.r, some q.g, some s⟩ from by
            unfold cv
            rw [if_neg HGN0.out, if_pos (by rw [← HQ.out.2.2.2]; exact hs0), ← HQ.out.2.2.2])
          have pq2 := put2Q p6 b8 1 [(⟨.int .i64 2, .iface 23 (.slice A7 gl c7), 0⟩ : MapEntry)] 9 (.iface 3 (.int .i64 s)) _ _ _ _ _ _ w8 HA8.out HH8.out rfl (by omega)
          go_wp2_with fail
          refine pq2.mono ?_
          rintro e w9 ⟨rfl, hA9, ⟨clk9, hh9⟩, hk9⟩
          have hb8l : b8 < w8.heap.size := by
            rcases Nat.lt_or_ge b8 w8.heap.size with hl | hl
            · exact hl
            · have := HH8.out; rw [Array.getElem?_eq_none hl] at this; cases this
          have HBW := hid (show Below wr.heap.size wr w9 from HB8.out.trans (hk9.toBelow HB8.out.size (by have := HB6.out.size; omega)))
          have HOF := hid (show On (Fro wr.heap.size) w9 (fun W => FR W [.pointer (some ⟨p6, 0, none⟩)] (cv q)) from by
            rw [HCS.out]
            refine ResAt.on (n := rl) HQ.out.1 (by rw [← HQ.out.2.2.1]; exact hA9) hpZ ?_ hA5b.out (.inr ⟨b8, _, _, rfl, hh9, rfl⟩) (fun b hb => ?_) (gv := some (.slice A7 gl c7)) ?_
            · exact hk9.rd hRd8.out (fun a ha => ⟨Nat.lt_of_lt_of_le (hA5c.out a ha) (Nat.le_trans HW56.out.size (Nat.le_trans hb7s HK8.out.size)), fun e => by have := hA5c.out a ha; have := HW56.out.size; omega⟩)
            · injection hb with hb
              injection hb with hb
              subst hb
              have := HB6.out.size
              show wr.heap.size ≤ b8
              omega
            · have h1 := HO7.out.step HK8.out.size (fun g g1 g2 => HK8.out.block g g1 (fun e => by unfold Fro at g2; omega))
              have h2 : On (fun g => w6.heap.size ≤ g ∧ g ≠ b8) w8 (fun W => RdL FB 1 W A7 gl q.g) := by
                intro W a k
                refine HO7.out W (Nat.le_trans HK8.out.size a) (fun g g1 g2 => ?_)
                have hne : g ≠ p6 := fun e => by unfold Fro at g2; omega
                exact (k g (Nat.lt_of_lt_of_le g1 HK8.out.size) ⟨g2, by omega⟩).trans (HK8.out.block g g1 hne)
              have h3 := h2.step hk9.size (fun g g1 g2 => hk9.block g g1 g2.2)
              exact (h3.mono (fun g _ g2 => Nat.le_trans HB6.out.size g2.1)).imp (fun W h => ⟨A7, c7, by rw [← HQ.out.2.1], by rw [← HQ.out.2.1]; exact h⟩))
          clear pq2 hA9 hh9 hk9
          have HBE := hid (HB.out.trans (HBW.out.mono hbs))
          have HOE := hid (HO.out.below HBW.out (Nat.le_refl _))
          clear HBW
          go_wp2_with ((at_builtin; refine wpList_appK (F := FR) (S := Fro w.heap.size) _ rfl _ _ 60 rfl w.heap.size 61 i61 _ 1 8 Try.underlying60 gi gz0 gz1 gz2 rfl (by omega) _ (Mc.take i) rfl (HOE.out.alloc _) ⟨w9.heap.size, 0, none⟩ 1 [.pointer (some ⟨p6, 0, none⟩)] (cv q) rfl rfl (cell_new w9 #[.pointer (some ⟨p6, 0, none⟩)] 61 _ rfl) (by simp [Value.oneCell']) ((HOF.out.alloc _).offFro hbs (fun k hk => (HO.out.lt k hk).2)) (by rw [HLT.out]; simp only [maxLen]; omega) (by rw [HLT.out]; omega) (by rw [World.size_alloc]; have := HBE.out.size; omega) ?_))
          intro v9 wf hO9 hg9 ho9
          have HN9 := hid (show OwnL FR 1 (Fro w.heap.size) wf w.heap.size 61 v9 (Mc.take (i + 1)) from by rw [HTK.out]; exact hO9)
          have HB9 := hid (below_appL (HBE.out.alloc HBE.out.size (.cells #[.pointer (some ⟨p6, 0, none⟩)] 61)) (HOE.out.alloc _) hg9 (Nat.le_refl _) (by rw [World.size_alloc]; have := HBE.out.size; omega))
          clear hO9 hg9 ho9
          go_wp2_with fail
          go_roundw
          case rel => first | exact ⟨i + 1, by omega, by go_num, HN9, HB9⟩ | ((repeat apply Exists.intro); exact ⟨⟨i + 1, by omega, rfl, HN9, HB9⟩, rfl⟩)
          case measure => first | (simp [intOf]; done) | (simp [intOf]; omega)
        · have HCS := hid (show cv q = ⟨q.t, q.r, some q.g, none⟩ from by
            unfold cv
            rw [if_neg HGN0.out, if_neg (by rw [← HQ.out.2.2.2]; exact hs0)])
          have HBW := hid HB8.out
          have HOF := hid (show On (Fro wr.heap.size) w8 (fun W => FR W [.pointer (some ⟨p6, 0, none⟩)] (cv q)) from by
            rw [HCS.out]
            exact ResAt.on (n := rl) HQ.out.1 (by rw [← HQ.out.2.2.1]; exact HA8.out) hpZ hRd8.out hA5b.out (.inr ⟨b8, _, _, rfl, HH8.out, rfl⟩) (fun b hb => by injection hb with hb; injection hb with hb; subst hb; have := HB6.out.size; show wr.heap.size ≤ b8; omega) (gv := some (.slice A7 gl c7)) HGV8.out)
          have HBE := hid (HB.out.trans (HBW.out.mono hbs))
          have HOE := hid (HO.out.below HBW.out (Nat.le_refl _))
          clear HBW
          go_wp2_with ((at_builtin; refine wpList_appK (F := FR) (S := Fro w.heap.size) _ rfl _ _ 60 rfl w.heap.size 61 i61 _ 1 8 Try.underlying60 gi gz0 gz1 gz2 rfl (by omega) _ (Mc.take i) rfl (HOE.out.alloc _) ⟨w8.heap.size, 0, none⟩ 1 [.pointer (some ⟨p6, 0, none⟩)] (cv q) rfl rfl (cell_new w8 #[.pointer (some ⟨p6, 0, none⟩)] 61 _ rfl) (by simp [Value.oneCell']) ((HOF.out.alloc _).offFro hbs (fun k hk => (HO.out.lt k hk).2)) (by rw [HLT.out]; simp only [maxLen]; omega) (by rw [HLT.out]; omega) (by rw [World.size_alloc]; have := HBE.out.size; omega) ?_))
          intro v9 w9 hO9 hg9 ho9
          have HN9 := hid (show OwnL FR 1 (Fro w.heap.size) w9 w.heap.size 61 v9 (Mc.take (i + 1)) from by rw [HTK.out]; exact hO9)
          have HB9 := hid (below_appL (HBE.out.alloc HBE.out.size (.cells #[.pointer (some ⟨p6, 0, none⟩)] 61)) (HOE.out.alloc _) hg9 (Nat.le_refl _) (by rw [World.size_alloc]; have := HBE.out.size; omega))
          clear hO9 hg9 ho9
          go_wp2_with fail
          go_roundw
          case rel => first | exact ⟨i + 1, by omega, by go_num, HN9, HB9⟩ | ((repeat apply Exists.intro); exact ⟨⟨i + 1, by omega, rfl, HN9, HB9⟩, rfl⟩)
          case measure => first | (simp [intOf]; done) | (simp [intOf]; omega)
    · obtain rfl : i = n := by omega
      have hlt2 : ¬ (i : Int) < (i : Int) := by omega
      have hOM := HO.out
      rw [HMC.out, List.take_of_length_le (by rw [List.length_map, HNL.out]; exact Nat.le_refl _)] at hOM
      obtain ⟨A3, c3, hv3, hc3⟩ := hOM.form
      rw [List.length_map, HNL.out] at hv3 hc3
      subst hv3
      have hON := (hOM.rdl (by rw [List.length_map, HNL.out]) (fun _ h => h) (fun _ h => h)).al
      obtain ⟨fc1, fc2, fc3⟩ := flatMap_cv M
      have hcvm : ∀ q' ∈ M.map cv, ∃ q ∈ M, q' = cv q := fun q' hq' => by obtain ⟨q, h1, h2⟩ := List.mem_map.1 hq'; exact ⟨q, h1, h2.symm⟩
      have hgcv : ∀ q ∈ M.map cv, ∀ Lg, q.g = some Lg → Lg.length ≤ 17179869184 ∧ ∀ y ∈ Lg, y.length ≤ 17179869184 := fun q' hq' Lg hL => by
        obtain ⟨q, h1, rfl⟩ := hcvm q' hq'
        have h2 : (cv q).g = if q.g.length = 0 then none else some q.g := rfl
        rw [h2] at hL
        split at hL
        · cases hL
        · injection hL with hL; subst hL; exact HGN.out q h1
      have pq := psaQ (M.map cv) A3 i c3 wr hON (by omega) hc3 (by rw [fc1]; have := HT.out; omega) (by rw [fc2]; have := HRL.out; omega) (by rw [fc3]; have := HGL.out; omega)
        (fun q' hq' => by obtain ⟨q, h1, rfl⟩ := hcvm q' hq'; exact H8.out q h1)
        (fun q' hq' hsa => by
          obtain ⟨q, h1, rfl⟩ := hcvm q' hq'
          rw [isSA_cv] at hsa
          exact HR1.out q h1 (of_decide_eq_true hsa))
        (fun q' hq' Lg hL => (hgcv q' hq' Lg hL).1)
      have JF := hid (fun out (hJ : Joined (M.map cv) out) => joined_facts (T := 17179869184) hJ (by rw [fc2]; exact HRL.out) (by rw [fc3]; exact HGL.out) hgcv (by omega))
      clear hOM hON fc1 fc2 fc3 hcvm hgcv hlt HO hc3
      go_wp2_with fail
      refine pq.mono ?_
      rintro e w4 ⟨A', n', c', out, rfl, hn', hc', hJ, hO, hB⟩
      obtain ⟨f1, f2⟩ := JF.out out hJ
      have hn64 : n' ≤ 64 := by rw [hn', ]; rw [List.length_map, HNL.out] at f1; omega
      obtain ⟨Bk, hBk⟩ : ∃ Bk, Bk = out.map bk := ⟨_, rfl⟩
      have HBK := hid hBk
      have HN' := hid hn'
      have HJ := hid hJ
      have HO' := hid hO
      have HF2 := hid f2
      have HB4 := hid (HB.out.trans (hB.mono hbs))
      obtain ⟨i29, yi, yz0, yz1, yz2⟩ := info_of29 info29
      clear pq hn' hc' hJ hO hB f1 f2 hBk JF
      go_wp2_with fail
      go_loopw [7, 53] (fun ov iv wr => ∃ (j : Nat), j ≤ n' ∧ iv = .int .i64 (j : Nat) ∧ Hid (OwnL FP 4 (Fro w4.heap.size) wr w4.heap.size 29 ov (Bk.take j)) ∧ Hid (Below w4.heap.size w4 wr)) (fun _ iv _ => n' - (intOf iv).toNat)
      case atStart => exact ⟨0, by omega, rfl, hid (OwnL.nil _ _ _), hid (Below.refl _ _)⟩
      case round =>
        obtain ⟨j, hj, rfl, HO2, HB2⟩ := hrel
        have hbs2 := HB2.out.size
        by_cases hlt : j < n'
        · have hlt3 : (j : Int) < (n' : Int) := by omega
          obtain ⟨b5, o5, p5, hA5, hb5, c0, hp5, hOn⟩ := resOn HO'.out j hlt
          subst hA5
          have c1 : wr.cell? ⟨b5, o5 + j, none⟩ = some (.pointer (some ⟨p5, 0, none⟩)) := (HB2.out.cell (p := ⟨b5, o5 + j, none⟩) hb5).trans c0
          obtain ⟨R, cR, nb, X, xm, xd, mm, gv, hFix⟩ := ResAt.fix hOn
          have HFX := hid hFix
          have hjO : j < out.length := by rw [← HN'.out]; exact hlt
          have hxO : out.getD j rv0 ∈ out := by rw [List.getD, List.getElem?_eq_getElem hjO]; exact List.getElem_mem hjO
          have HTK := hid (show Bk.take (j + 1) = Bk.take j ++ [bk (out.getD j rv0)] from by rw [HBK.out, ← List.map_take, ← List.map_take, take_succD out j rv0 hjO, List.map_append]; rfl)
          obtain ⟨hxs, hxr, hxg⟩ := HF2.out _ hxO
          have HXG := hid hxg
          generalize out.getD j rv0 = x at *
          have hbk : bk x = ⟨x.t, x.r, x.g.getD [], -1⟩ := by unfold bk; rw [hxs]; rfl
          have HBX := hid hbk
          have HLT := hid (show (Bk.take j).length = j from by rw [List.length_take, HBK.out, List.length_map]; omega)
          obtain ⟨rl, hrl⟩ : ∃ a, a = x.r.length := ⟨_, rfl⟩
          obtain ⟨st, hst⟩ : ∃ a, a = strOf x.t := ⟨_, rfl⟩
          rw [← hrl] at hxr HFX
          rw [← hst] at HFX
          have HQ := hid (And.intro hrl hst)
          obtain ⟨hArr, hRd, hMeta, hGV⟩ := (HFX.out.below HB2.out).here
          have gt := getTQ hArr
          have gr := getRQ hArr
          have HRD := hid hRd
          clear hFix hOn c0 hjO hxO hxg hbk hrl hst hArr hRd hMeta hGV
          go_wp2_with fail
          refine gt.mono ?_
          rintro e w1 ⟨rfl, rfl⟩
          go_wp2_with fail
          refine gr.mono ?_
          rintro e w1 ⟨rfl, rfl⟩
          go_wp2_with ((at_builtin; refine wpList_app _ rfl _ _ 22 rfl wr.heap.size 5 i5 _ 1 Try.underlying22 hi5 hz0 hz1 hz2 rfl _ [] rfl (Own.nil wr wr.heap.size 5) R rl cR (u8s x.r) rfl HRD.out (u8s_one _) (by simp only [maxLen, List.length_nil]; omega) (by simp only [List.length_nil]; omega) (Nat.le_refl _) ?_))
          intro v5 w5 hO5 hg5 ho5
          have hb5w : Below wr.heap.size wr w5 := (Below.refl _ wr).grown hg5 (Nat.le_refl _) (fun k hk => by cases hk)
          obtain ⟨A5, c5, hv5, hR5, hc5⟩ := hO5.form
          rw [u8s_len, ← HQ.out.1] at hv5 hR5 hc5
          subst hv5
          have hA5b := hid hO5.blk
          obtain ⟨w6, hw6⟩ : ∃ w6, w6 = w5.alloc (.cells #[.string st, .slice A5 rl c5, .slice none 0 0, .int .i64 (-1)] 29) := ⟨_, rfl⟩
          have HP6 := hid (show Arr w6 w5.heap.size 29 [.string st, .slice A5 rl c5, .slice none 0 0, .int .i64 (-1)] from by rw [hw6]; exact Arr.of_new _ _ _)
          have HB6 := hid (show Below wr.heap.size wr w6 from by rw [hw6]; exact hb5w.alloc hb5w.size _)
          have HR6 := hid (show Rd w6 A5 rl (u8s x.r) from by rw [hw6]; exact hR5.alloc _)
          have h56 : w5.heap.size < w6.heap.size := by rw [hw6, World.size_alloc]; omega
          have hbs5 := hb5w.size
          have HC5 := hid hc5
          have HW6 := hid hw6
          obtain ⟨hArr, hRd, hMeta, hGV⟩ := (HFX.out.below (HB2.out.trans (HB6.out.mono hbs2))).here
          have gm := getMQ hArr
          have lk := look2 hMeta
          rw [hw6] at gm lk
          clear hO5 hg5 ho5 hb5w hR5 hc5 hw6 gt gr
          cases gv with
          | none =>
            have tas := as23 none
            change ∀ W, (Instr.typeAssert .nilIface 20 23 true).run Try.prog W = .ok (.tuple #[.slice none 0 0, .bool false]) W at tas
            change (Instr.lookup 71 mm (.int .i64 2) false).run Try.prog _ = .ok .nilIface _ at lk
            have lk9 := look9 hMeta
            rw [hxs] at lk9
            change (Instr.lookup 71 mm (.int .i64 9) false).run Try.prog _ = .ok .nilIface _ at lk9
            have tas3 := as3 none
            change ∀ W, (Instr.typeAssert .nilIface 20 3 true).run Try.prog W = .ok (.tuple #[.int .i64 0, .bool false]) W at tas3
            have hq0 : x.g = none := by
              cases hq : x.g with
              | none => rfl
              | some Lg => rw [hq] at hGV; exact hGV.elim
            have HBW := hid HB6.out
            have HOF := hid (show On (Fro wr.heap.size) w6 (fun W => FP W [.string st, .slice A5 rl c5, .slice none 0 0, .int .i64 (-1)] (bk x)) from by
              rw [HBX.out, hq0]
              refine (On.rd HR6.out (fun _ a ha => (hA5b.out a ha).1)).imp (fun W h => ⟨A5, c5, none, 0, by rw [← HQ.out.1, ← HQ.out.2]; rfl, by rw [← HQ.out.1]; exact HC5.out, by rw [← HQ.out.1]; exact h, ⟨rfl, fun h => absurd h (Nat.lt_irrefl 0)⟩⟩))
            clear hArr hRd hMeta hGV hq0
            go_wp2_with fail
            refine gm.mono ?_
            rintro e w1 ⟨rfl, rfl⟩
            go_wp2_with fail
            refine gm.mono ?_
            rintro e w1 ⟨rfl, rfl⟩
            have z0 : w6.cell? ⟨w5.heap.size, 0, none⟩ = some (.string st) := HP6.out.cell? 0
            have z1 : w6.cell? ⟨w5.heap.size, 1, none⟩ = some (.slice A5 rl c5) := HP6.out.cell? 1
            have z2 : w6.cell? ⟨w5.heap.size, 2, none⟩ = some (.slice none 0 0) := HP6.out.cell? 2
            have z3 : w6.cell? ⟨w5.heap.size, 3, none⟩ = some (.int .i64 (-1)) := HP6.out.cell? 3
            rw [← HW6.out]
            clear gm lk tas
            have HBE := hid (HB2.out.trans (HBW.out.mono hbs2))
            have HOE := hid (HO2.out.below HBW.out (Nat.le_refl _))
            clear HBW
            have h63 := hid (show (Bk.take j).length + 1 ≤ maxLen from by rw [HLT.out]; simp only [maxLen]; omega)
            have hby := hid (show ((Bk.take j).length + 1) * 72 ≤ 140737488355328 from by rw [HLT.out]; omega)
            have hBs := hid (show w4.heap.size ≤ (w6.alloc (.cells #[.string st, .slice A5 rl c5, .slice none 0 0, .int .i64 (-1)] 29)).heap.size from by rw [World.size_alloc]; have := HBE.out.size; omega)
            have h1c := hid (show ∀ u ∈ [Value.string st, .slice A5 rl c5, .slice none 0 0, .int .i64 (-1)], u.oneCell' = true from by simp [Value.oneCell'])
            go_wp2_with ((at_builtin; refine wpList_appK (F := FP) (S := Fro w4.heap.size) _ rfl _ _ 25 rfl w4.heap.size 29 i29 _ 4 72 Try.underlying25 yi yz0 yz1 yz2 rfl (by omega) _ (Bk.take j) rfl ?_ ⟨w6.heap.size, 0, none⟩ 1 [.string st, .slice A5 rl c5, .slice none 0 0, .int .i64 (-1)] (bk x) rfl rfl (cell_new w6 #[.string st, .slice A5 rl c5, .slice none 0 0, .int .i64 (-1)] 29 _ rfl) h1c.out ?_ h63.out hby.out hBs.out ?_))
            · exact HOE.out.alloc _
            · exact (HOF.out.alloc _).offFro hbs2 (fun k hk => (HO2.out.lt k hk).2)
            intro v9 wf hO9 hg9 ho9
            have HN9 := hid (show OwnL FP 4 (Fro w4.heap.size) wf w4.heap.size 29 v9 (Bk.take (j + 1)) from by rw [HTK.out]; exact hO9)
            have HB9 := hid (below_appL (HBE.out.alloc HBE.out.size (.cells #[.string st, .slice A5 rl c5, .slice none 0 0, .int .i64 (-1)] 29)) (HOE.out.alloc _) hg9 (Nat.le_refl _) (by rw [World.size_alloc]; have := HBE.out.size; omega))
            clear hO9 hg9 ho9
            go_wp2_with fail
            go_roundw
            case rel => first | exact ⟨j + 1, by omega, by go_num, HN9, HB9⟩ | ((repeat apply Exists.intro); exact ⟨⟨j + 1, by omega, rfl, HN9, HB9⟩, rfl⟩)
            case measure => first | (simp [intOf]; done) | (simp [intOf]; omega)
          | some v =>
            obtain ⟨Lg, hLg⟩ : ∃ Lg, x.g = some Lg := by
              cases hq : x.g with
              | none => rw [hq] at hGV; exact hGV.elim
              | some Lg => exact ⟨Lg, rfl⟩
            rw [hLg] at hGV
            obtain ⟨G, cG, rfl, hGR⟩ := hGV
            have hxl := HXG.out Lg hLg
            have HGO := hid (show On Al w6 (fun W => RdL FB 1 W G Lg.length Lg) from fun W a k => by
              obtain ⟨_, _, _, hG'⟩ := (HFX.out.below (HB2.out.trans (HB6.out.mono hbs2))) W a k
              rw [hLg] at hG'
              obtain ⟨G', c', e', hR'⟩ := hG'
              injection e' with e1 e2 e3
              subst e1
              exact hR')
            have tas := as23 (some (.slice G Lg.length cG))
            change ∀ W, (Instr.typeAssert (.iface 23 (.slice G Lg.length cG)) 20 23 true).run Try.prog W = .ok (.tuple #[.slice G Lg.length cG, .bool true]) W at tas
            change (Instr.lookup 71 mm (.int .i64 2) false).run Try.prog _ = .ok (.iface 23 (.slice G Lg.length cG)) _ at lk
            obtain ⟨gl, hgl⟩ : ∃ gl, gl = Lg.length := ⟨_, rfl⟩
            rw [← hgl] at tas lk HGO hxl
            have HG := hid (And.intro hLg hgl)
            have lq := listsQ Lg G gl cG w6 HGO.out hxl.1 hxl.2
            clear hArr hRd hMeta hGR hLg hgl hxl
            go_wp2_with fail
            refine gm.mono ?_
            rintro e w1 ⟨rfl, rfl⟩
            rw [← HW6.out] at lk ⊢
            clear gm
            go_wp2_with fail
            refine lq.mono ?_
            rintro e w7 ⟨A7, c7, rfl, hc7, hO7, hb7⟩
            have HP7 := hid (HP6.out.below hb7 HP6.out.lt)
            have HO7 := hid hO7
            have HB7 := hid hb7
            have hb7s := hb7.size
            have z20 : w7.cell? ⟨w5.heap.size, 2, none⟩ = some (.slice none 0 0) := HP7.out.cell? 2
            have fz := HP7.out.frozen 2
            obtain ⟨w8, hw8⟩ : ∃ w8, w8 = w7.setCell ⟨w5.heap.size, 2, none⟩ (.slice A7 gl c7) := ⟨_, rfl⟩
            have HP8 := hid (show Arr w8 w5.heap.size 29 [.string st, .slice A5 rl c5, .slice A7 gl c7, .int .i64 (-1)] from by rw [hw8]; exact HP7.out.set 2 (.slice A7 gl c7))
            have hz8 : w8.heap.size = w7.heap.size := by rw [hw8, World.size_setCell]
            have h8o : ∀ g, g ≠ w5.heap.size → w8.heap[g]? = w7.heap[g]? := fun g hg => by rw [hw8]; exact Below.heap_setCell w7 ⟨w5.heap.size, 2, none⟩ _ g (fun e => hg e)
            have HB8 := hid (show Below wr.heap.size wr w8 from by rw [hw8]; exact (HB6.out.trans (HB7.out.mono HB6.out.size)).setCell (p := ⟨w5.heap.size, 2, none⟩) hbs5 _)
            have HBW := hid HB8.out
            have HOF := hid (show On (Fro wr.heap.size) w8 (fun W => FP W [.string st, .slice A5 rl c5, .slice A7 gl c7, .int .i64 (-1)] (bk x)) from by
              rw [HBX.out, HG.out.1]
              have r1 : Rd w8 A5 rl (u8s x.r) := by
                have h1 := HR6.out.below HB7.out
                refine ⟨h1.1, fun hn => ?_⟩
                obtain ⟨b, o, e, hb, hc⟩ := h1.2 hn
                have h2 := (hA5b.out _ e).2
                exact ⟨b, o, e, by omega, fun k hk => (World.cell?_of_block (a := ⟨b, o + k, none⟩) (h8o b (by show b ≠ w5.heap.size; have h3 : b < w5.heap.size := h2; omega))).trans (hc k hk)⟩
              have r2 : On (Fro wr.heap.size) w8 (fun W => RdL FB 1 W A7 gl Lg) := (HO7.out.step (by omega) (fun g g1 g2 => h8o g (fun e => by unfold Fro at g2; omega))).mono (fun g _ g2 => Nat.le_trans HB6.out.size g2)
              refine ((On.rd r1 (fun _ a ha => (hA5b.out a ha).1)).and r2).imp (fun W h => ⟨A5, c5, A7, c7, by rw [← HQ.out.1, ← HQ.out.2]; show [Value.string st, Value.slice A5 rl c5, Value.slice A7 gl c7, Value.int IntKind.i64 (-1)] = [_, _, Value.slice A7 Lg.length c7, _]; rw [← HG.out.2], by rw [← HQ.out.1]; exact HC5.out, by rw [← HQ.out.1]; exact h.1, by show RdL FB 1 W A7 Lg.length Lg; rw [← HG.out.2]; exact h.2⟩))
            obtain ⟨hArr, hRd, hMeta, hGV⟩ := (HFX.out.below (HB2.out.trans (HB8.out.mono hbs2))).here
            have gm := getMQ hArr
            have lk9 := look9 hMeta
            rw [hxs] at lk9
            change (Instr.lookup 71 mm (.int .i64 9) false).run Try.prog _ = .ok .nilIface _ at lk9
            have tas3 := as3 none
            change ∀ W, (Instr.typeAssert .nilIface 20 3 true).run Try.prog W = .ok (.tuple #[.int .i64 0, .bool false]) W at tas3
            have HW8 := hid hw8
            rw [hw8] at gm
            clear hArr hRd hMeta hGV lq hc7 hO7 hb7 hw8 h8o hz8
            go_wp2_with fail
            refine gm.mono ?_
            rintro e w1 ⟨rfl, rfl⟩
            have z0 : w8.cell? ⟨w5.heap.size, 0, none⟩ = some (.string st) := HP8.out.cell? 0
            have z1 : w8.cell? ⟨w5.heap.size, 1, none⟩ = some (.slice A5 rl c5) := HP8.out.cell? 1
            have z2 : w8.cell? ⟨w5.heap.size, 2, none⟩ = some (.slice A7 gl c7) := HP8.out.cell? 2
            have z3 : w8.cell? ⟨w5.heap.size, 3, none⟩ = some (.int .i64 (-1)) := HP8.out.cell? 3
            rw [← HW8.out]
            clear gm lk tas z20 fz
            have HBE := hid (HB2.out.trans (HBW.out.mono hbs2))
            have HOE := hid (HO2.out.below HBW.out (Nat.le_refl _))
            clear HBW
            have h63 := hid (show (Bk.take j).length + 1 ≤ maxLen from by rw [HLT.out]; simp only [maxLen]; omega)
            have hby := hid (show ((Bk.take j).length + 1) * 72 ≤ 140737488355328 from by rw [HLT.out]; omega)
            have hBs := hid (show w4.heap.size ≤ (w8.alloc (.cells #[.string st, .slice A5 rl c5, .slice A7 gl c7, .int .i64 (-1)] 29)).heap.size from by rw [World.size_alloc]; have := HBE.out.size; omega)
            have h1c := hid (show ∀ u ∈ [Value.string st, .slice A5 rl c5, .slice A7 gl c7, .int .i64 (-1)], u.oneCell' = true from by simp [Value.oneCell'])
            go_wp2_with ((at_builtin; refine wpList_appK (F := FP) (S := Fro w4.heap.size) _ rfl _ _ 25 rfl w4.heap.size 29 i29 _ 4 72 Try.underlying25 yi yz0 yz1 yz2 rfl (by omega) _ (Bk.take j) rfl ?_ ⟨w8.heap.size, 0, none⟩ 1 [.string st, .slice A5 rl c5, .slice A7 gl c7, .int .i64 (-1)] (bk x) rfl rfl (cell_new w8 #[.string st, .slice A5 rl c5, .slice A7 gl c7, .int .i64 (-1)] 29 _ rfl) h1c.out ?_ h63.out hby.out hBs.out ?_))
            · exact HOE.out.alloc _
            · exact (HOF.out.alloc _).offFro hbs2 (fun k hk => (HO2.out.lt k hk).2)
            intro v9 wf hO9 hg9 ho9
            have HN9 := hid (show OwnL FP 4 (Fro w4.heap.size) wf w4.heap.size 29 v9 (Bk.take (j + 1)) from by rw [HTK.out]; exact hO9)
            have HB9 := hid (below_appL (HBE.out.alloc HBE.out.size (.cells #[.string st, .slice A5 rl c5, .slice A7 gl c7, .int .i64 (-1)] 29)) (HOE.out.alloc _) hg9 (Nat.le_refl _) (by rw [World.size_alloc]; have := HBE.out.size; omega))
            clear hO9 hg9 ho9
            go_wp2_with fail
            go_roundw
            case rel => first | exact ⟨j + 1, by omega, by go_num, HN9, HB9⟩ | ((repeat apply Exists.intro); exact ⟨⟨j + 1, by omega, rfl, HN9, HB9⟩, rfl⟩)
            case measure => first | (simp [intOf]; done) | (simp [intOf]; omega)
        · obtain rfl : j = n' := by omega
          have hlt3 : ¬ (j : Int) < (j : Int) := by omega
          have hBl : Bk.length = j := by rw [HBK.out, List.length_map, HN'.out]
          have hOF := HO2.out
          rw [List.take_of_length_le (by omega)] at hOF
          obtain ⟨A7, c7, hv7, hc7⟩ := hOF.form
          rw [hBl] at hv7
          subst hv7
          have HFIN := hid (show On Al wr (fun W => RdL FP 4 W A7 j (out.map bk)) from by
            have := (hOF.rdl hBl.symm (fun _ h => h) (fun _ h => h)).al
            rwa [HBK.out] at this)
          have HBF := hid (HB4.out.trans (HB2.out.mono HB4.out.size))
          clear hBl hOF hc7 hlt
          go_wp2_with fail
          go_ret
          exact ⟨A7, j, c7, out, rfl, HN'.out, hn64, HJ.out, fun x hx => (HF2.out x hx).1, HFIN.out, HBF.out⟩
end Go.Proofs.Ytpffffhgmhpkiaa
