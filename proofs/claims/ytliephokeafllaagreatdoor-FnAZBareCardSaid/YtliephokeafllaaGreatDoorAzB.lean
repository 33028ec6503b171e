/- The Aztec writer's memory; azWriter.put, azWriter.width. -/
import Derived.Test.YtliephokeafllaaGreatDoorAzA
import Derived.Test.YtliephokeafllaaGreatDoorBits
namespace Go.Proofs.YtliephokeafllaaGreatDoor
open Go.RowKit
set_option linter.unusedVariables false
set_option linter.unusedSimpArgs false

theorem Own.far {w : World} {B : Nat} {e : TypeId} {v : Value} {xs : List Value} (h : Own w B e v xs) {p : Addr} (hp : v.ownBlock ≠ some p.block) (u : Value) : Own (w.setCell p u) B e v xs := by
  refine ⟨h.1, ?_⟩
  rcases h.2 with h2 | ⟨g, cap, cur, hv, hg, hh, r⟩
  · exact .inl h2
  · refine .inr ⟨g, cap, cur, hv, hg, ?_, r⟩
    rw [Below.heap_setCell w p u g (by intro h; apply hp; rw [hv, h]; rfl)]
    exact hh

/-- What a call keeps that has a block q and an owned slice v: all other blocks. -/
def Fr (q : Nat) (v : Value) (w : World) (v' : Value) (w' : World) : Prop :=
  w.heap.size ≤ w'.heap.size ∧ ∀ g, g < w.heap.size → g ≠ q → v.ownBlock ≠ some g → w'.heap[g]? = w.heap[g]? ∧ v'.ownBlock ≠ some g
theorem Fr.refl (q : Nat) (v : Value) (w : World) : Fr q v w v w := ⟨Nat.le_refl _, fun _ _ _ h => ⟨rfl, h⟩⟩
theorem Fr.trans {q : Nat} {v v' v'' : Value} {w w' w'' : World} (h : Fr q v w v' w') (k : Fr q v' w' v'' w'') : Fr q v w v'' w'' :=
  ⟨Nat.le_trans h.1 k.1, fun g h1 h2 h3 => by
    obtain ⟨a1, a2⟩ := h.2 g h1 h2 h3
    obtain ⟨b1, b2⟩ := k.2 g (Nat.lt_of_lt_of_le h1 h.1) h2 a2
    exact ⟨b1.trans a1, b2⟩⟩
theorem Fr.drewN {q : Nat} {v v' : Value} {w w' : World} (h : Fr q v w v' w') (n : Nat) : Fr q v w v' (w'.drewN n) := h
theorem Rd.fr {q : Nat} {v v' : Value} {w w' : World} {A : Option Addr} {n : Nat} {l : List Value} (h : Rd w A n l) (hf : Fr q v w v' w')
    (hA : ∀ ad, A = some ad → ad.block ≠ q ∧ v.ownBlock ≠ some ad.block) : Rd w' A n l := by
  refine ⟨h.1, fun hn => ?_⟩
  obtain ⟨b, o, hA', hb, hc⟩ := h.2 hn
  obtain ⟨h1, h2⟩ := hA _ hA'
  exact ⟨b, o, hA', Nat.lt_of_lt_of_le hb hf.1, fun k hk => (World.cell?_of_block (w := w) (hf.2 b hb h1 h2).1).trans (hc k hk)⟩

/-- A writer: its block, its bits. -/
structure IsAz (w : World) (q B : Nat) (v : Value) (s : AzSt) : Prop where
  cells : Arr w q 50 [v, .string (strOf s.text), .int .i64 (s.mode : Nat)]
  own : Own w B 4 v (s.bits.map Value.bool)
  apart : v.ownBlock ≠ some q
  le : B ≤ q
theorem IsAz.drewN {w : World} {q B : Nat} {v : Value} {s : AzSt} (h : IsAz w q B v s) (n : Nat) : IsAz (w.drewN n) q B v s := ⟨h.cells, h.own, h.apart, h.le⟩
theorem IsAz.form {w : World} {q B : Nat} {v : Value} {s : AzSt} (h : IsAz w q B v s) : ∃ A c, v = .slice A s.bits.length c ∧ Rd w A s.bits.length (s.bits.map Value.bool) ∧ s.bits.length ≤ c := by
  have := h.own.form
  simpa using this
theorem IsAz.fr {w w' : World} {q B : Nat} {v : Value} {s : AzSt} (h : IsAz w q B v s) {q2 : Nat} {v2 v2' : Value} (hf : Fr q2 v2 w v2' w') (h1 : q ≠ q2) (h2 : v2.ownBlock ≠ some q) (h3 : v.ownBlock = none ∨ v.ownBlock ≠ some q2) (h4 : v.ownBlock = none ∨ v.ownBlock ≠ v2.ownBlock) : IsAz w' q B v s := by
  refine ⟨(hf.2 q h.cells.lt h1 h2).1.trans h.cells, ⟨h.own.1, ?_⟩, h.apart, h.le⟩
  rcases h.own.2 with h5 | ⟨g, cap, cur, hv, hg, hh, r⟩
  · exact .inl h5
  · refine .inr ⟨g, cap, cur, hv, hg, ?_, r⟩
    have e : v.ownBlock = some g := by rw [hv]; rfl
    have hlt := (h.own.lt g e).2
    have g1 : g ≠ q2 := by
      rcases h3 with h3 | h3
      · rw [e] at h3; cases h3
      · intro hx; exact h3 (by rw [e, hx])
    have g2 : v2.ownBlock ≠ some g := by
      rcases h4 with h4 | h4
      · rw [e] at h4; cases h4
      · intro hx; exact h4 (by rw [e, hx])
    rw [(hf.2 g hlt g1 g2).1]
    exact hh
/-- What a method that writes leaves. -/
def AzOut (q B : Nat) (v : Value) (s : AzSt) (w : World) (e : Ending) (w' : World) : Prop :=
  e = .returned (.tuple #[]) ∧ ∃ v', IsAz w' q B v' s ∧ Below B w w' ∧ Fr q v w v' w'

/-- One bit more, stored. -/
theorem IsAz.bit {w w3 : World} {q B : Nat} {v v1 : Value} {s : AzSt} {b : Bool} (h : IsAz w q B v s)
    (hO : Own w3 B 4 v1 (s.bits.map Value.bool ++ [.bool b])) (hg : (w.alloc (.cells #[.bool b] 4)).grownBy w3 v.ownBlock)
    (hown : v1.ownBlock = v.ownBlock ∨ v1.ownBlock = some (w.alloc (.cells #[.bool b] 4)).heap.size) :
    IsAz (w3.setCell ⟨q, 0, none⟩ v1) q B v1 ⟨s.bits ++ [b], s.text, s.mode⟩ ∧ Below B w (w3.setCell ⟨q, 0, none⟩ v1) ∧ Fr q v w v1 (w3.setCell ⟨q, 0, none⟩ v1) ∧
      (∃ u, w3.cell? ⟨q, 0, none⟩ = some u) ∧ w3.frozen? ⟨q, 0, none⟩ = false := by
  have hq := h.cells.lt
  have hB : B ≤ w.heap.size := Nat.le_trans h.le (Nat.le_of_lt hq)
  have hne : v1.ownBlock ≠ some q := by
    rcases hown with e | e
    · rw [e]; exact h.apart
    · rw [e]; simp; omega
  have hA : Arr w3 q 50 [v, .string (strOf s.text), .int .i64 (s.mode : Nat)] := (h.cells.alloc _).grown hg (fun e => h.apart e.symm)
  have hb1 : Below B w w3 := below_app ((Below.refl B w).alloc hB (.cells #[.bool b] 4)) (h.own.alloc (.cells #[.bool b] 4)) hg (Nat.le_refl _) (by simp; omega)
  refine ⟨⟨hA.set 0 v1, ?_, hne, h.le⟩, hb1.setCell h.le _, ⟨?_, fun g h1 h2 h3 => ?_⟩, ⟨_, hA.cell 0 (by simp)⟩, hA.frozen 0⟩
  · simpa using hO.far (p := ⟨q, 0, none⟩) hne v1
  · simpa using hb1.size
  · refine ⟨(Below.heap_setCell w3 _ _ g h2).trans ((hg.block g (by simp; omega) (fun e => h3 e.symm)).trans (Below.heap_alloc w _ g h1)), ?_⟩
    rcases hown with e | e
    · rw [e]; exact h3
    · rw [e]; simp; omega

theorem info4 : (Tryz.prog.info? 4).map (fun i => (i.zero, i.size, i.bytes)) = some (some (.bool false), 1, 1) := by kernel_rfl

set_option maxRecDepth 20000 in
set_option maxHeartbeats 4000000 in
theorem putM (w : World) (q B : Nat) (v : Value) (s : AzSt) (n many : Nat) (hm : many ≤ 16) (hn : n < 4096) (hA : IsAz w q B v s) (hl : s.bits.length ≤ 1000000) :
    Calls Tryz.prog 16 #[.pointer (some ⟨q, 0, none⟩), .int .i64 (n : Nat), .int .i64 (many : Nat)] w (AzOut q B v (s.put n many) w) := by
  obtain ⟨i4, hi4, hb0, hb1, hb2⟩ := info_of info4
  go_enter Tryz.func16, Tryz.ntmps16
  go_wp2_with fail
  go_loopw [6] (fun kv wr => ∃ (j : Nat) (bs : List Bool) (v' : Value), j ≤ many ∧ kv = .int .i64 ((j : Int) - 1) ∧ Hid (bs ++ putBits n j = putBits n many) ∧ Hid (IsAz wr q B v' ⟨s.bits ++ bs, s.text, s.mode⟩) ∧ Hid (Below B w wr) ∧ Hid (Fr q v w v' wr)) (fun kv _ => (intOf kv + 1).toNat)
  case atStart => exact ⟨many, [], v, Nat.le_refl _, rfl, hid rfl, hid (by simpa using hA), hid (Below.refl _ _), hid (Fr.refl _ _ _)⟩
  case round =>
    obtain ⟨j, bs, v', hj, rfl, HE, HA, HB, HF⟩ := hrel
    rcases Nat.eq_zero_or_pos j with rfl | hj0
    · go_wp2_with fail
      go_end0
      have hE := HE.out
      rw [putBits, List.append_nil] at hE
      subst hE
      exact ⟨rfl, v', HA.out, HB.out, HF.out⟩
    · obtain ⟨k, rfl⟩ : ∃ k, j = k + 1 := ⟨j - 1, by omega⟩
      have hk1 : ((k + 1 : Nat) : Int) - 1 = (k : Nat) := by omega
      rw [hk1]
      have hk16 : k < 16 := by omega
      have hbl : (s.bits ++ bs).length ≤ 1000016 := by
        have e := congrArg List.length HE.out
        simp only [List.length_append, putBits_len] at e ⊢
        omega
      obtain ⟨cur, hcur⟩ : ∃ cur, cur = s.bits ++ bs := ⟨_, rfl⟩
      rw [← hcur] at HA hbl
      obtain ⟨A8, c8, hv8, hR8, hc8⟩ := HA.out.form
      simp only at hv8
      subst hv8
      have c0 := HA.out.cells.cell 0 (by simp)
      simp only [List.getElem_cons_zero] at c0
      have hq := HA.out.cells.lt
      have hBw : B ≤ wr.heap.size := Nat.le_trans HA.out.le (Nat.le_of_lt hq)
      obtain ⟨b, hb⟩ : ∃ b, b = (n / 2 ^ k % 2 == 1) := ⟨_, rfl⟩
      have HBB := hid (show (bits BinOp.and IntKind.i64 ((n : Int) / 2 ^ k) 1 == 1) = b by
        have e : ((n : Int) / 2 ^ k) = ((n / 2 ^ k : Nat) : Int) := by rw [Int.natCast_ediv, Int.natCast_pow]; rfl
        have h1 : n / 2 ^ k < 4096 := Nat.lt_of_le_of_lt (Nat.div_le_self _ _) hn
        have h2 := i64_and (n / 2 ^ k) 1 (by omega) (by decide)
        rw [Nat.and_one_is_mod] at h2
        have h3 : bits BinOp.and IntKind.i64 (((n / 2 ^ k : Nat)) : Int) 1 = ((n / 2 ^ k % 2 : Nat) : Int) := h2
        rw [e, h3, hb]
        rcases Nat.mod_two_eq_zero_or_one (n / 2 ^ k) with h | h <;> rw [h] <;> rfl)
      clear hR8 hc8
      have HC := hid hcur
      have HBD := hid hb
      clear hcur hb
      have hlen : (cur.map Value.bool).length = cur.length := by simp
      go_wp2_with (at_builtin; refine wpList_app _ rfl _ _ 23 rfl B 4 i4 _ 1 Tryz.underlying23 hi4 hb0 hb1 hb2 rfl _ (cur.map Value.bool) rfl (HA.out.own.alloc _) _ 1 1 [.bool _] rfl (Rd.one' _ _ _ _ rfl) (by simp [Value.oneCell']) (by rw [hlen]; unfold maxLen; omega) (by rw [hlen]; omega) (by simp; omega) ?_)
      intro v1 w3 hO hg hown
      rw [HBB.out] at hO hg
      have hown : v1.ownBlock = (Value.slice A8 cur.length c8).ownBlock ∨ v1.ownBlock = some (wr.alloc (.cells #[.bool b] 4)).heap.size := by simpa using hown
      obtain ⟨hA1, hB1, hF1, ⟨u0, hu0⟩, hf0⟩ := HA.out.bit (b := b) hO hg hown
      obtain ⟨A9, c9, hv9, _, _⟩ := hO.form
      rw [List.length_append, hlen, List.length_singleton] at hv9
      subst hv9
      have HA1 := hid hA1
      have HB1 := hid (HB.out.trans hB1)
      have HF1 := hid (HF.out.trans hF1)
      have HE1 := hid (show (bs ++ [b]) ++ putBits n k = putBits n many by rw [← HE.out, putBits, HBD.out, List.append_assoc]; rfl)
      clear hA1 hB1 hF1 hO hg hown HA HB HF HE HBB
      go_wp2_with fail
      go_roundw
      case rel => exact ⟨k, bs ++ [b], _, by omega, rfl, HE1, by rw [← List.append_assoc, ← HC.out]; exact HA1, HB1, HF1⟩
      case measure => simp [intOf]
end Go.Proofs.YtliephokeafllaaGreatDoor
