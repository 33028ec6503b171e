/- The walks of FnBISources: a source of bits. -/
import Derived.Test.YtpffffhgmhpkiaaProg
import Derived.Test.YtpffffhgmhpkiaaMem
import Derived.Test.YtpffffhgmhpkiaaSrcL
import Derived.BigQuiet
import Derived.Deep.QuietTactic
import Derived.KernelRfl
namespace Go.Proofs.Ytpffffhgmhpkiaa
open Go.RowKit
set_option linter.unusedVariables false

def u8s (l : List Nat) : List Value := l.map (fun (x : Nat) => Value.int .u8 (x : Int))
theorem rd_byte {w : World} {A : Option Addr} {n : Nat} {l : List Nat} (h : Rd w A n (u8s l)) (k : Nat) (hk : k < n) :
    ∃ b o, A = some ⟨b, o, none⟩ ∧ b < w.heap.size ∧ w.cell? ⟨b, o + k, none⟩ = some (.int .u8 (l.getD k 0 : Nat)) := by
  obtain ⟨hl, h⟩ := h
  obtain ⟨b, o, hA, hb, hc⟩ := h (by omega)
  have hl : l.length = n := by simpa [u8s] using hl
  refine ⟨b, o, hA, hb, ?_⟩
  rw [hc k (by rw [u8s, List.length_map]; omega)]
  simp [u8s, List.getD, List.getElem?_eq_getElem (show k < l.length by omega)]

/-- Block q is a source of bits that stands at bit p. -/
def Src (w : World) (q : Nat) (A : Option Addr) (n c p : Nat) : Prop := Arr w q 201 [.slice A n c, .int .i64 (p / 8 : Nat), .int .i64 (p % 8 : Nat)]

theorem available (q : Nat) (A : Option Addr) (n c p : Nat) (w : World) (h : Src w q A n c p) (hp : p ≤ 8 * n) (hn : n ≤ 4000) :
    Calls Try.prog 90 #[.pointer (some ⟨q, 0, none⟩)] w fun e w' => e = .returned (.int .i64 (8 * n - p : Nat)) ∧ ∃ k, w' = w.drewN k := by
  unfold Src at h
  have d0 := h.cell? 0
  have d1 := h.cell? 1
  have d2 := h.cell? 2
  try simp only at d0 d1 d2
  obtain ⟨a, ha⟩ : ∃ a, a = p / 8 := ⟨_, rfl⟩
  obtain ⟨o, ho⟩ : ∃ o, o = p % 8 := ⟨_, rfl⟩
  rw [← ha] at d1
  rw [← ho] at d2
  have e1 : (8 : Int) * ((n : Int) - a) - o = ((8 * n - p : Nat) : Int) := by omega
  clear h
  have HA := hid ha
  have HO := hid ho
  have hol : o ≤ 7 := by omega
  have hal : a ≤ 4000 := by omega
  clear ha ho
  go_enter Try.func90, Try.ntmps90
  go_wp2
  go_quiet (fail)
  go_wp2
  go_ret
  exact ⟨by rw [← e1]; go_num, _, rfl⟩

/-- What is read, and where the source stands behind it. -/
def okw (n p : Nat) (v : Int) : Bool := decide (1 ≤ v ∧ v ≤ 32 ∧ v ≤ ((8 * n - p : Nat) : Int))
def ReadOut (l : List Nat) (q : Nat) (A : Option Addr) (n c p : Nat) (v : Int) (w : World) (e : Ending) (w' : World) : Prop :=
  ∃ er, e = .returned (.tuple #[.int .i64 (if okw n p v then rdn l p v.toNat else 0 : Nat), er]) ∧ (er = .nilIface ∧ okw n p v = true ∨ (∃ a, er = .iface 78 (.pointer (some a))) ∧ okw n p v = false) ∧
    Src w' q A n c (if okw n p v then p + v.toNat else p) ∧ w.grownBy w' (some q)

theorem gDrew {w w' : World} {r : Option Nat} (h : w.grownBy w' r) (k : Nat) : w.grownBy (w'.drewN k) r := ⟨h.os, h.tape, h.output, h.size, h.block⟩
theorem gAlloc {w w' : World} {r : Option Nat} (h : w.grownBy w' r) (o : Obj) : w.grownBy (w'.alloc o) r := h.trans (World.grownBy_alloc _ o _)
theorem gSet {w w' : World} {q : Nat} (h : w.grownBy w' (some q)) (k : Nat) (v : Value) : w.grownBy (w'.setCell ⟨q, k, none⟩ v) (some q) :=
  h.trans ⟨rfl, rfl, rfl, by simp [World.setCell], fun j _ hj => Below.heap_setCell _ _ _ _ (fun e => hj (by rw [e]))⟩

theorem Src.alloc {w : World} {q : Nat} {A : Option Addr} {n c p : Nat} (h : Src w q A n c p) (o : Obj) : Src (w.alloc o) q A n c p := Arr.alloc h o
theorem Src.drewN {w : World} {q : Nat} {A : Option Addr} {n c p : Nat} (h : Src w q A n c p) (k : Nat) : Src (w.drewN k) q A n c p := h

set_option maxRecDepth 4000 in
theorem readBits_B (q : Nat) (A : Option Addr) (n c p : Nat) (l : List Nat) (m : Nat) (w : World) (h : Src w q A n c p) (hp : p ≤ 8 * n) (hn : n ≤ 4000) (hR : Rd w A n (u8s l)) (hb : ∀ j, l.getD j 0 < 256) (hm1 : 1 ≤ m) (hm2 : m ≤ 32) (hm3 : m ≤ 8 * n - p)
    (ho : 0 < p % 8) (hin : m < 8 - p % 8) :
    Calls Try.prog 91 #[.pointer (some ⟨q, 0, none⟩), .int .i64 m] w (ReadOut l q A n c p m w) := by
  have HOK := hid (show okw n p m = true by simp only [okw, decide_eq_true_eq]; omega)
  have hav := available q A n c p w h hp hn
  have hL : 8 * n - p ≤ 32000 := by omega
  obtain ⟨b, o, rfl, hbw, hcell⟩ := rd_byte hR (p / 8) (by omega)
  have hB := hb (p / 8)
  have HV := hid (rdn_in l p m (by omega))
  have d0 := h.cell? 0
  have d1 := h.cell? 1
  have d2 := h.cell? 2
  have f2 := h.frozen 2
  try simp only at d0 d1 d2
  have g1 : Src (w.setCell ⟨q, 2, none⟩ (.int .i64 ((p % 8 : Nat) + m : Int))) q (some ⟨b, o, none⟩) n c (p + m) := by
    have := Arr.set h 2 (.int .i64 ((p % 8 : Nat) + m : Int))
    unfold Src
    rw [show (p + m) / 8 = p / 8 from by omega, show ((p + m) % 8 : Nat) = p % 8 + m from by omega]
    exact this
  have hv1 : ¬ ((8 : Int) - (p % 8 : Nat)) ≤ m := by omega
  have hov : (((p % 8 : Nat) : Int) + m == 8) = false := by rw [beq_eq_false_iff_ne]; omega
  have hov2 : ((p % 8 : Nat) : Int) + m ≤ 8 := by omega
  have hc1 : ¬ (m : Int) < 1 := by omega
  have hc2 : ¬ (32 : Int) < m := by omega
  generalize l.getD (p / 8) 0 = B at *
  obtain ⟨a, ha⟩ : ∃ a, a = p / 8 := ⟨_, rfl⟩
  obtain ⟨s, hs⟩ : ∃ s, s = p % 8 := ⟨_, rfl⟩
  rw [← ha] at d1 hcell
  rw [← hs] at d2 hin ho g1 HV hv1 hov hov2
  have HA := hid ha
  have HS := hid hs
  have G1 := hid g1
  have hal : a < n := by omega
  have hsl : s < 8 := by omega
  have HLV := hid (lowVal B s m hB (by omega))
  generalize 8 * n - p = L at *
  have hc3 : ¬ (L : Int) < m := by omega
  clear h g1 ha hs hR hb
  go_enter Try.func91, Try.ntmps91
  go_wp2_with fail
  refine hav.mono ?_
  rintro e w1 ⟨rfl, k, rfl⟩
  go_wp2
  go_quiet (fail)
  go_wp2
  go_ret2
  rw [HLV.out, ← HV.out]
  refine ⟨.nilIface, ?_, .inl ⟨rfl, HOK.out⟩, ?_, ?_⟩
  · rw [HOK.out]; rfl
  · rw [HOK.out]; exact G1.out
  · exact gSet (World.grownBy.refl _ _ |> fun h => gDrew h _) 2 _

set_option maxRecDepth 4000 in
theorem readBits_A (q : Nat) (A : Option Addr) (n c p : Nat) (l : List Nat) (m : Nat) (w : World) (h : Src w q A n c p) (hp : p ≤ 8 * n) (hn : n ≤ 4000) (hR : Rd w A n (u8s l)) (hb : ∀ j, l.getD j 0 < 256) (hq : ∀ a, A = some a → a.block ≠ q) (hm1 : 1 ≤ m) (hm2 : m ≤ 32) (hm3 : m ≤ 8 * n - p)
    (ho : p % 8 = 0) :
    Calls Try.prog 91 #[.pointer (some ⟨q, 0, none⟩), .int .i64 m] w (ReadOut l q A n c p m w) := by
  have HOK := hid (show okw n p m = true by simp only [okw, decide_eq_true_eq]; omega)
  have hav := available q A n c p w h hp hn
  have hL : 8 * n - p ≤ 32000 := by omega
  have HM3 := hid hm3
  have HP := hid ho
  have d2 := h.cell? 2
  try simp only at d2
  rw [ho] at d2
  have hc1 : ¬ (m : Int) < 1 := by omega
  have hc2 : ¬ (32 : Int) < m := by omega
  generalize 8 * n - p = L at hav hL hm3
  have hc3 : ¬ (L : Int) < m := by omega
  have H := hid h
  clear h ho
  go_enter Try.func91, Try.ntmps91
  go_wp2_with fail
  refine hav.mono ?_
  rintro e w1 ⟨rfl, k, rfl⟩
  clear hav
  go_wp2
  go_loopw [1, 6] (fun nb r wr => ∃ j : Nat, j ≤ m ∧ Hid ((p + j) % 8 = 0) ∧ nb = .int .i64 ((m : Int) - j) ∧ r = .int .i64 (rdn l p j : Nat) ∧ Src wr q A n c (p + j) ∧ w.grownBy wr (some q)) (fun nb _ _ => (intOf nb).toNat)
  case atStart => exact ⟨0, by omega, hid HP.out, by go_num, rfl, H.out, gDrew (World.grownBy.refl _ _) _⟩
  case round =>
    obtain ⟨j, hj, hpj, rfl, rfl, hS, hG⟩ := hrel
    have d0 := hS.cell? 0
    have d1 := hS.cell? 1
    have d2 := hS.cell? 2
    have f1 := hS.frozen 1
    have f2 := hS.frozen 2
    try simp only at d0 d1 d2
    rw [hpj.out] at d2
    by_cases hge : 8 ≤ m - j
    · have hbk := hb ((p + j) / 8)
      obtain ⟨b, o, rfl, hbw, hcell⟩ := rd_byte hR ((p + j) / 8) (by have := HM3.out; omega)
      have hcell' := World.grownBy.cell hG hcell (fun e => hq _ rfl (by injection e))
      have HRD := hid (rdn_byte l p j hpj.out hbk)
      have hRl := rdn_small l p j (by omega)
      have g1 : Src ((wr).setCell ⟨q, 1, none⟩ (.int .i64 (((p + j) / 8 : Nat) + 1 : Int))) q (some ⟨b, o, none⟩) n c (p + (j + 8)) := by
        have := Arr.set hS 1 (.int .i64 (((p + j) / 8 : Nat) + 1 : Int))
        unfold Src
        rw [show (p + (j + 8)) / 8 = (p + j) / 8 + 1 from by omega, show ((p + (j + 8)) % 8 : Nat) = (p + j) % 8 from by omega]
        exact this
      have G1 := hid g1
      clear g1
      generalize l.getD ((p + j) / 8) 0 = B at *
      have hwi : (8 : Int) ≤ (m : Int) - j := by omega
      have hal : (p + j) / 8 < n := by have := HM3.out; omega
      generalize (p + j) / 8 = a at *
      generalize rdn l p j = R at *
      have HS := hid hS
      clear hS hcell hR
      go_wp2
      go_quiet (fail)
      go_wp2
      rw [byteOr R B hRl hbk, ← HRD.out]
      refine ⟨⟨j + 8, by omega, hid (by have := hpj.out; omega), by go_num, rfl, G1.out, gSet (gDrew hG _) 1 _⟩, ?_⟩
      simp [intOf]; omega
    · by_cases hje : j = m
      · subst hje
        have hS' := hid hS
        clear hS hR
        have HR2 := hid (rfl : rdn l p j = rdn l p j)
        generalize hRe : rdn l p j = R at *
        go_wp2
        go_ret2
        refine ⟨.nilIface, ?_, .inl ⟨rfl, HOK.out⟩, ?_, hG⟩
        · rw [HOK.out, ← hRe]; rfl
        · rw [HOK.out]; exact hS'.out
      · obtain ⟨t, ht⟩ : ∃ t, m = j + t := ⟨m - j, by omega⟩
        subst ht
        have hbk := hb ((p + j) / 8)
        obtain ⟨b, o, rfl, hbw, hcell⟩ := rd_byte hR ((p + j) / 8) (by have := HM3.out; omega)
        have hcell' := World.grownBy.cell hG hcell (fun e => hq _ rfl (by injection e))
        have HRD := hid (rdn_part l p j t hpj.out (by omega))
        have hRl := rdn_small l p j (by omega)
        have g1 : Src ((wr).setCell ⟨q, 2, none⟩ (.int .i64 (t : Int))) q (some ⟨b, o, none⟩) n c (p + (j + t)) := by
          have := Arr.set hS 2 (.int .i64 (t : Int))
          unfold Src
          rw [show (p + (j + t)) / 8 = (p + j) / 8 from by have := hpj.out; omega, show ((p + (j + t)) % 8 : Nat) = t from by have := hpj.out; omega]
          exact this
        have G1 := hid g1
        clear g1
        generalize l.getD ((p + j) / 8) 0 = B at *
        have hal : (p + j) / 8 < n := by have := HM3.out; omega
        generalize (p + j) / 8 = a at *
        generalize hRe : rdn l p j = R at *
        have HS := hid hS
        have hm' : ((j + t : Nat) : Int) - j = t := by omega
        have ht1 : 1 ≤ t := by omega
        have ht8 : t < 8 := by omega
        clear hS hcell hR
        rw [hm']
        go_wp2
        go_quiet (fail)
        go_wp2
        go_ret2
        rw [partOr R B t hRl hbk ht8, ← HRD.out]
        refine ⟨.nilIface, ?_, .inl ⟨rfl, HOK.out⟩, ?_, gSet (gDrew hG _) 2 _⟩
        · rw [HOK.out]; rfl
        · rw [HOK.out]; exact G1.out
set_option maxHeartbeats 1000000 in
set_option maxRecDepth 4000 in
theorem readBits_C (q : Nat) (A : Option Addr) (n c p : Nat) (l : List Nat) (m : Nat) (w : World) (h : Src w q A n c p) (hp : p ≤ 8 * n) (hn : n ≤ 4000) (hR : Rd w A n (u8s l)) (hb : ∀ j, l.getD j 0 < 256) (hq : ∀ a, A = some a → a.block ≠ q) (hm1 : 1 ≤ m) (hm2 : m ≤ 32) (hm3 : m ≤ 8 * n - p)
    (ho : 0 < p % 8) (hin : 8 - p % 8 ≤ m) :
    Calls Try.prog 91 #[.pointer (some ⟨q, 0, none⟩), .int .i64 m] w (ReadOut l q A n c p m w) := by
  have HOK := hid (show okw n p m = true by simp only [okw, decide_eq_true_eq]; omega)
  have hav := available q A n c p w h hp hn
  have hL : 8 * n - p ≤ 32000 := by omega
  have HM3 := hid hm3
  have hbk := hb (p / 8)
  obtain ⟨b0, o0, hA0, hbw0, hcell⟩ := rd_byte hR (p / 8) (by omega)
  have HV := hid (rdn_in l p (8 - p % 8) (by omega))
  have d0 := h.cell? 0
  have d1 := h.cell? 1
  have d2 := h.cell? 2
  have f1 := h.frozen 1
  have f2 := h.frozen 2
  try simp only at d0 d1 d2
  have hal : p / 8 < n := by omega
  have g1 : ∀ V : Value, Src (((w.setCell ⟨q, 2, none⟩ V).setCell ⟨q, 2, none⟩ (.int .i64 0)).setCell ⟨q, 1, none⟩ (.int .i64 ((p / 8 : Nat) + 1 : Int))) q A n c (p + (8 - p % 8)) := by
    intro V
    have := (((Arr.set h 2 V).set 2 (.int .i64 0)).set 1 (.int .i64 ((p / 8 : Nat) + 1 : Int)))
    unfold Src
    rw [show (p + (8 - p % 8)) / 8 = p / 8 + 1 from by omega, show ((p + (8 - p % 8)) % 8 : Nat) = 0 from by omega]
    exact this
  have G1 := hid g1
  have G0 := hid h
  clear g1
  have hc1 : ¬ (m : Int) < 1 := by omega
  have hc2 : ¬ (32 : Int) < m := by omega
  have hv1 : ¬ (m : Int) < 8 - (p % 8 : Nat) := by omega
  generalize hBe : l.getD (p / 8) 0 = B at *
  obtain ⟨a, ha⟩ : ∃ a, a = p / 8 := ⟨_, rfl⟩
  obtain ⟨s, hs⟩ : ∃ s, s = p % 8 := ⟨_, rfl⟩
  rw [← ha] at d1 hcell hal
  rw [← hs] at d2 hin ho HV hv1
  have HA := hid ha
  have HS := hid hs
  have hsl : s < 8 := by omega
  generalize 8 * n - p = L at hav hL hm3
  have hc3 : ¬ (L : Int) < m := by omega
  rw [hA0] at d0
  have HA0 := hid hA0
  clear h ha hs hA0
  have he8 : ((s : Int) + (8 - s) == 8) = true := by rw [beq_iff_eq]; omega
  have HHV := hid (headVal B s hbk (by omega))
  have ht : (p + (8 - s)) % 8 = 0 := by have := HS.out; omega
  have HT := hid ht
  clear ht
  by_cases hmore : (8 : Int) - s < m
  · go_enter Try.func91, Try.ntmps91
    go_wp2_with fail
    refine hav.mono ?_
    rintro e w1 ⟨rfl, k, rfl⟩
    clear hav
    go_wp2
    go_quiet (fail)
    go_wp2
    clear d0 d1 d2 hcell f1 f2
    rw [HHV.out, ← HV.out]
    have hg1 := gSet (gSet (gSet (gDrew (World.grownBy.refl w (some q)) (k + nq)) 2 (.int .i64 ((s : Int) + (8 - s)))) 2 (.int .i64 0)) 1 (.int .i64 ((a : Int) + 1))
    clear hv1 hmore he8 hin ho hbk HHV HV hal
    go_loopw [1, 6] (fun nb r wr => ∃ j : Nat, j ≤ m ∧ Hid ((p + j) % 8 = 0) ∧ nb = .int .i64 ((m : Int) - j) ∧ r = .int .i64 (rdn l p j : Nat) ∧ Src wr q A n c (p + j) ∧ w.grownBy wr (some q)) (fun nb _ _ => (intOf nb).toNat)
    case atStart =>
      refine ⟨8 - s, by omega, HT.out, by rw [Int.ofNat_sub (by omega)]; rfl, rfl, ?_, hg1⟩
      rw [HA.out, HS.out]
      exact G1.out _
    case round =>
      obtain ⟨j, hj, hpj, rfl, rfl, hS, hG⟩ := hrel
      have d0 := hS.cell? 0
      have d1 := hS.cell? 1
      have d2 := hS.cell? 2
      have f1 := hS.frozen 1
      have f2 := hS.frozen 2
      try simp only at d0 d1 d2
      rw [hpj.out] at d2
      by_cases hge : 8 ≤ m - j
      · have hbk := hb ((p + j) / 8)
        obtain ⟨b, o, rfl, hbw, hcell⟩ := rd_byte hR ((p + j) / 8) (by have := HM3.out; omega)
        have hcell' := World.grownBy.cell hG hcell (fun e => hq _ rfl (by injection e))
        have HRD := hid (rdn_byte l p j hpj.out hbk)
        have hRl := rdn_small l p j (by omega)
        have g1 : Src ((wr).setCell ⟨q, 1, none⟩ (.int .i64 (((p + j) / 8 : Nat) + 1 : Int))) q (some ⟨b, o, none⟩) n c (p + (j + 8)) := by
          have := Arr.set hS 1 (.int .i64 (((p + j) / 8 : Nat) + 1 : Int))
          unfold Src
          rw [show (p + (j + 8)) / 8 = (p + j) / 8 + 1 from by omega, show ((p + (j + 8)) % 8 : Nat) = (p + j) % 8 from by omega]
          exact this
        have G1 := hid g1
        clear g1
        generalize l.getD ((p + j) / 8) 0 = B at *
        have hwi : (8 : Int) ≤ (m : Int) - j := by omega
        have hal : (p + j) / 8 < n := by have := HM3.out; omega
        generalize (p + j) / 8 = a at *
        generalize rdn l p j = R at *
        have HS := hid hS
        clear hS hcell hR
        go_wp2
        go_quiet (fail)
        go_wp2
        rw [byteOr R B hRl hbk, ← HRD.out]
        refine ⟨⟨j + 8, by omega, hid (by have := hpj.out; omega), by go_num, rfl, G1.out, gSet (gDrew hG _) 1 _⟩, ?_⟩
        simp [intOf]; omega
      · by_cases hje : j = m
        · subst hje
          have hS' := hid hS
          clear hS hR
          have HR2 := hid (rfl : rdn l p j = rdn l p j)
          generalize hRe : rdn l p j = R at *
          go_wp2
          go_ret2
          refine ⟨.nilIface, ?_, .inl ⟨rfl, HOK.out⟩, ?_, hG⟩
          · rw [HOK.out, ← hRe]; rfl
          · rw [HOK.out]; exact hS'.out
        · obtain ⟨t, ht⟩ : ∃ t, m = j + t := ⟨m - j, by omega⟩
          subst ht
          have hbk := hb ((p + j) / 8)
          obtain ⟨b, o, rfl, hbw, hcell⟩ := rd_byte hR ((p + j) / 8) (by have := HM3.out; omega)
          have hcell' := World.grownBy.cell hG hcell (fun e => hq _ rfl (by injection e))
          have HRD := hid (rdn_part l p j t hpj.out (by omega))
          have hRl := rdn_small l p j (by omega)
          have g1 : Src ((wr).setCell ⟨q, 2, none⟩ (.int .i64 (t : Int))) q (some ⟨b, o, none⟩) n c (p + (j + t)) := by
            have := Arr.set hS 2 (.int .i64 (t : Int))
            unfold Src
            rw [show (p + (j + t)) / 8 = (p + j) / 8 from by have := hpj.out; omega, show ((p + (j + t)) % 8 : Nat) = t from by have := hpj.out; omega]
            exact this
          have G1 := hid g1
          clear g1
          generalize l.getD ((p + j) / 8) 0 = B at *
          have hal : (p + j) / 8 < n := by have := HM3.out; omega
          generalize (p + j) / 8 = a at *
          generalize hRe : rdn l p j = R at *
          have HS := hid hS
          have hm' : ((j + t : Nat) : Int) - j = t := by omega
          have ht1 : 1 ≤ t := by omega
          have ht8 : t < 8 := by omega
          clear hS hcell hR
          rw [hm']
          go_wp2
          go_quiet (fail)
          go_wp2
          go_ret2
          rw [partOr R B t hRl hbk ht8, ← HRD.out]
          refine ⟨.nilIface, ?_, .inl ⟨rfl, HOK.out⟩, ?_, gSet (gDrew hG _) 2 _⟩
          · rw [HOK.out]; rfl
          · rw [HOK.out]; exact G1.out
  · have hms := hid (show m = 8 - s by omega)
    go_enter Try.func91, Try.ntmps91
    go_wp2_with fail
    refine hav.mono ?_
    rintro e w1 ⟨rfl, k, rfl⟩
    clear hav
    go_wp2
    go_quiet (fail)
    go_wp2
    go_ret2
    rw [HHV.out, ← HV.out]
    have hg1 := gSet (gSet (gSet (gDrew (World.grownBy.refl w (some q)) (k + nq)) 2 (.int .i64 ((s : Int) + (8 - s)))) 2 (.int .i64 0)) 1 (.int .i64 ((a : Int) + 1))
    refine ⟨.nilIface, ?_, .inl ⟨rfl, HOK.out⟩, ?_, hg1⟩
    · rw [HOK.out]; simp only [if_true, Int.toNat_natCast]; rw [← hms.out]; rfl
    · rw [HOK.out]; simp only [if_true, Int.toNat_natCast]; rw [hms.out, HA.out, HS.out]; exact G1.out _
end Go.Proofs.Ytpffffhgmhpkiaa
