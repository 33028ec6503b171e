/- QR codes: FnRQJoins: laws.rqPart, rqOther. -/
import Derived.Test.YtpffffhgmhpkiaaJnN
import Derived.Deep.QuietTactic
import Derived.BigQuiet
import Derived.Deep.RegionHeld3
namespace Go.Proofs.Ytpffffhgmhpkiaa
open Go.RowKit
set_option linter.unusedVariables false
set_option linter.unusedSimpArgs false

set_option maxRecDepth 20000 in
set_option maxHeartbeats 4000000 in
theorem sameBytesL (A1 A2 : Option Addr) (n c1 c2 : Nat) (W : List Nat) (w : World) (h1 : Rd w A1 n (u8s W)) (h2 : Rd w A2 n (u8s W)) (hW : ∀ x ∈ W, x < 256) (hn : n ≤ 17179869184) :
    Calls Try.prog 24 #[.slice A1 n c1, .slice A2 n c2] w fun e w' => e = .returned (.bool true) ∧ ∃ k, w' = w.drewN k := by
  have hl : n = W.length := by have := h1.1; rw [u8s_len] at this; exact this.symm
  have HL := hid hl
  have H1 := hid h1
  have H2 := hid h2
  have HW := hid hW
  clear hl h1 h2 hW
  go_enter Try.func24, Try.ntmps24
  go_wp2_with fail
  go_loopw [13] (fun iv wr => ∃ i m : Nat, i ≤ n ∧ iv = .int .i64 (i : Nat) ∧ w.drewN m = wr) (fun iv _ => n - (intOf iv).toNat)
  case atStart => exact ⟨0, 0, by omega, rfl, rfl⟩
  case round =>
    obtain ⟨i, m, hi, rfl, rfl⟩ := hrel
    by_cases hlt : i < n
    · have hlt' : (i : Int) < (n : Int) := by omega
      have hi0 : (0 : Int) ≤ (i : Int) := by omega
      obtain ⟨b1, o1, rfl, hb1, hc1⟩ := (H1.out.drewN m).2 (by omega)
      obtain ⟨b2, o2, rfl, hb2, hc2⟩ := (H2.out.drewN m).2 (by omega)
      have hiW : i < W.length := by rw [← HL.out]; exact hlt
      have d1 := hc1 i (by rw [u8s_len]; exact hiW)
      have d2 := hc2 i (by rw [u8s_len]; exact hiW)
      simp only [u8s, List.getElem_map] at d1 d2
      have hx := HW.out _ (List.getElem_mem hiW)
      generalize W[i]'hiW = x at *
      clear hc1 hc2 hiW
      generalize hwm : w.drewN m = wm at *
      have HWM := hid hwm
      clear hwm
      go_wp2_with fail
      go_quiet (fail)
      go_wp2_with fail
      go_roundw
      case rel => first | exact ⟨i + 1, m + nq, by omega, by go_num, by rw [← HWM.out, World.drewN_drewN]⟩ | ((repeat apply Exists.intro); exact ⟨⟨i + 1, m + nq, by omega, rfl, by rw [← HWM.out, World.drewN_drewN]⟩, rfl⟩)
      case measure => first | (simp [intOf]; done) | (simp [intOf]; omega)
    · obtain rfl : i = n := by omega
      have hlt' : ¬ (i : Int) < (i : Int) := by omega
      go_wp2_with fail
      go_ret
      exact ⟨rfl, m, rfl⟩

/-- A part as a value. -/
def partV (st : ByteArray) (R : Option Addr) (rn c : Nat) (G : Option Addr) (gn d : Nat) (s : Int) : Value := .agg #[.string st, .slice R rn c, .slice G gn d, .int .i64 s]
/-- A part as it is handed over. -/
def PartIn (w : World) (v : Value) (q : QP) : Prop :=
  ∃ R c G d, v = .agg #[.string (strOf q.t), .slice R q.r.length c, .slice G q.g.length d, .int .i64 q.s] ∧ On Al w (fun W => Rd W R q.r.length (u8s q.r) ∧ RdL FB 1 W G q.g.length q.g)
/-- Two parts lie in blocks of their own. -/
def K8 (w w' : World) (p q : Nat) (a0 a1 a2 a3 b0 b1 b2 b3 : Value) : Prop :=
  Below w.heap.size w w' ∧ w'.cell? ⟨p, 0, none⟩ = some a0 ∧ w'.cell? ⟨p, 1, none⟩ = some a1 ∧ w'.cell? ⟨p, 2, none⟩ = some a2 ∧ w'.cell? ⟨p, 3, none⟩ = some a3 ∧ w'.cell? ⟨q, 0, none⟩ = some b0 ∧ w'.cell? ⟨q, 1, none⟩ = some b1 ∧ w'.cell? ⟨q, 2, none⟩ = some b2 ∧ w'.cell? ⟨q, 3, none⟩ = some b3 ∧ p < w'.heap.size ∧ q < w'.heap.size
theorem K8.keep {w W W' : World} {p q : Nat} {a0 a1 a2 a3 b0 b1 b2 b3 : Value} (h : K8 w W p q a0 a1 a2 a3 b0 b1 b2 b3) (hb : Below W.heap.size W W') : K8 w W' p q a0 a1 a2 a3 b0 b1 b2 b3 := by
  obtain ⟨h0, c0, c1, c2, c3, d0, d1, d2, d3, l1, l2⟩ := h
  exact ⟨h0.trans (hb.mono h0.size), (hb.cell (p := ⟨p, 0, none⟩) l1).trans c0, (hb.cell (p := ⟨p, 1, none⟩) l1).trans c1, (hb.cell (p := ⟨p, 2, none⟩) l1).trans c2, (hb.cell (p := ⟨p, 3, none⟩) l1).trans c3,
    (hb.cell (p := ⟨q, 0, none⟩) l2).trans d0, (hb.cell (p := ⟨q, 1, none⟩) l2).trans d1, (hb.cell (p := ⟨q, 2, none⟩) l2).trans d2, (hb.cell (p := ⟨q, 3, none⟩) l2).trans d3, Nat.lt_of_lt_of_le l1 hb.size, Nat.lt_of_lt_of_le l2 hb.size⟩
theorem K8.drew {w W : World} {p q : Nat} {a0 a1 a2 a3 b0 b1 b2 b3 : Value} (h : K8 w W p q a0 a1 a2 a3 b0 b1 b2 b3) : K8 w W.drew p q a0 a1 a2 a3 b0 b1 b2 b3 := ⟨h.1.drew, h.2⟩
theorem K8.drewN {w W : World} {p q : Nat} {a0 a1 a2 a3 b0 b1 b2 b3 : Value} (h : K8 w W p q a0 a1 a2 a3 b0 b1 b2 b3) (k : Nat) : K8 w (W.drewN k) p q a0 a1 a2 a3 b0 b1 b2 b3 := ⟨below_drewN h.1 k, h.2⟩
set_option maxRecDepth 20000 in
set_option maxHeartbeats 8000000 in
theorem rqPartQ (a b : QP) (va vb : Value) (w : World) (ha : PartIn w va a) (hb : PartIn w vb b) (hab : Same a b) (hr8 : ∀ x ∈ a.r, x < 256) (hg8 : ∀ x ∈ a.g.flatten, x < 256) (hrl : a.r.length ≤ 17179869184) (hgl : a.g.flatten.length ≤ 17179869184) (h1 : a.g.length ≤ 17179869184) (h2 : b.g.length ≤ 17179869184) :
    Calls Try.prog 12 #[va, vb] w (fun e w' => e = .returned (.bool true) ∧ Below w.heap.size w w') := by
  obtain ⟨Ra, ca, Ga, da, rfl, hOa⟩ := ha
  obtain ⟨Rb, cb, Gb, db, rfl, hOb⟩ := hb
  obtain ⟨e1, e2, e3, e4⟩ := hab
  rw [← e1, ← e2, ← e3]
  rw [← e2] at hOb
  obtain ⟨rl, hrl2⟩ : ∃ x, x = a.r.length := ⟨_, rfl⟩
  obtain ⟨ga, hga⟩ : ∃ x, x = a.g.length := ⟨_, rfl⟩
  obtain ⟨gb, hgb⟩ : ∃ x, x = b.g.length := ⟨_, rfl⟩
  obtain ⟨fl, hfl⟩ : ∃ x, x = a.g.flatten.length := ⟨_, rfl⟩
  obtain ⟨st, hst⟩ : ∃ x, x = strOf a.t := ⟨_, rfl⟩
  obtain ⟨s, hs⟩ : ∃ x, x = a.s := ⟨_, rfl⟩
  rw [← hrl2, ← hst, ← hs, ← hga, ← hgb]
  rw [← hrl2] at hOa hOb hrl
  rw [← hga] at hOa h1
  rw [← hgb] at hOb h2
  have HOA := hid hOa
  have HOB := hid hOb
  have sb := fun (W : World) (hb : Below w.heap.size w W) => sameBytesL Ra Rb rl ca cb a.r W (hOa.below hb).here.1 (hOb.below hb).here.1 hr8 hrl
  have fa := fun (W : World) (hb : Below w.heap.size w W) => flatQ a.g Ga ga da W ((hOa.below hb).imp (fun _ h => h.2)) h1 hgl
  have fb := fun (W : World) (hb : Below w.heap.size w W) => flatQ b.g Gb gb db W ((hOb.below hb).imp (fun _ h => h.2)) h2 (by rw [← e4]; exact hgl)
  have sg := fun (W : World) (A1 A2 : Option Addr) (c1 c2 : Nat) (k1 : Rd W A1 fl (u8s a.g.flatten)) (k2 : Rd W A2 fl (u8s a.g.flatten)) => sameBytesL A1 A2 fl c1 c2 a.g.flatten W k1 k2 hg8 (by rw [hfl]; exact hgl)
  unfold FlatOut at fa fb
  rw [← e4] at fb
  rw [← hfl] at fa fb
  have SB := hid sb
  have FA := hid fa
  have FBB := hid fb
  have SG := hid sg
  clear hOa hOb hr8 hg8 hrl hgl hrl2 hga hgb hfl hst hs e1 e2 e3 e4 sb fa fb sg
  go_enter Try.func12, Try.ntmps12
  go_wp2_with fail
  obtain ⟨pa, hpa⟩ : ∃ pa, pa = w.heap.size := ⟨_, rfl⟩
  obtain ⟨pb, hpb⟩ : ∃ pb, pb = pa + 1 := ⟨_, rfl⟩
  have A1 := (Arr.of_new w 29 #[.string st, .slice Ra rl ca, .slice Ga ga da, .int .i64 s]).alloc (.cells #[.string st, .slice Rb rl cb, .slice Gb gb db, .int .i64 s] 29)
  have A2 := Arr.of_new (w.alloc (.cells #[.string st, .slice Ra rl ca, .slice Ga ga da, .int .i64 s] 29)) 29 #[.string st, .slice Rb rl cb, .slice Gb gb db, .int .i64 s]
  rw [World.size_alloc, ← hpa, ← hpb] at A2
  rw [← hpa] at A1
  have hB1 := ((Below.refl w.heap.size w).alloc (Nat.le_refl _) (.cells #[.string st, .slice Ra rl ca, .slice Ga ga da, .int .i64 s] 29)).alloc (by rw [World.size_alloc]; omega) (.cells #[.string st, .slice Rb rl cb, .slice Gb gb db, .int .i64 s] 29)
  have hsz := hB1.size
  rw [← hpa, ← hpb]
  generalize (w.alloc (.cells #[.string st, .slice Ra rl ca, .slice Ga ga da, .int .i64 s] 29)).alloc (.cells #[.string st, .slice Rb rl cb, .slice Gb gb db, .int .i64 s] 29) = w1 at *
  have S0 : K8 w w1 pa pb (.string st) (.slice Ra rl ca) (.slice Ga ga da) (.int .i64 s) (.string st) (.slice Rb rl cb) (.slice Gb gb db) (.int .i64 s) :=
    ⟨hB1, A1.cell? 0, A1.cell? 1, A1.cell? 2, A1.cell? 3, A2.cell? 0, A2.cell? 1, A2.cell? 2, A2.cell? 3, A1.lt, A2.lt⟩
  have S0d := S0.drew
  have q0 := S0.2.1
  have q1 := S0.2.2.1
  have q2 := S0.2.2.2.1
  have q3 := S0.2.2.2.2.1
  have q4 := S0.2.2.2.2.2.1
  have q5 := S0.2.2.2.2.2.2.1
  have q6 := S0.2.2.2.2.2.2.2.1
  have q7 := S0.2.2.2.2.2.2.2.2.1
  have HPA := hid hpa
  clear A1 A2 hpa hpb
  go_region_held3 (fun w' => Below w.heap.size w w' ∧ w'.cell? ⟨pa, 0, none⟩ = some (.string st) ∧ w'.cell? ⟨pa, 1, none⟩ = some (.slice Ra rl ca) ∧ w'.cell? ⟨pa, 2, none⟩ = some (.slice Ga ga da) ∧ w'.cell? ⟨pa, 3, none⟩ = some (.int .i64 s) ∧ w'.cell? ⟨pb, 0, none⟩ = some (.string st) ∧ w'.cell? ⟨pb, 1, none⟩ = some (.slice Rb rl cb) ∧ w'.cell? ⟨pb, 2, none⟩ = some (.slice Gb gb db) ∧ w'.cell? ⟨pb, 3, none⟩ = some (.int .i64 s) ∧ pa < w'.heap.size ∧ pb < w'.heap.size)
    (first
    | exact S0
    | exact S0d
    | exact S0.drewN _
    | exact S5
    | exact S6
    | exact S6.drewN _)
    (first
    | (go_at_call 24; ((with_reducible refine (SB.out _ ?_).mono ?_); (first | exact S0d.1 | exact S0.1); rintro e w4 ⟨rfl, k1, rfl⟩))
    | (go_at_call 33; ((with_reducible refine (FA.out _ ?_).mono ?_); (exact (S0.drewN _).1); rintro e w5 ⟨A5, c5, rfl, j5, hb5⟩; have S5 := (S0.drewN _).keep hb5))
    | (go_at_call 33; ((with_reducible refine (FBB.out _ ?_).mono ?_); (exact S5.1); rintro e w6 ⟨A6, c6, rfl, j6, hb6⟩; have S6 := S5.keep hb6))
    | (go_at_call 24; ((with_reducible refine (SG.out _ _ _ _ _ ?_ ?_).mono ?_); (exact j5.below hb6); (exact j6); rintro e w7 ⟨rfl, k2, rfl⟩)))
  have HF := hid ((S6.drewN k2).1)
  clear S0 S0d S5 S6 q0 q1 q2 q3 q4 q5 q6 q7 hB1 hsz
  go_wp2_with fail
  go_ret
  exact ⟨rfl, HF.out⟩
def OtherOut (s : List Nat) (A : Option Addr) (n c : Nat) (w : World) (e : Ending) (w' : World) : Prop :=
  ∃ g, e = .returned (.agg #[.string (strOf s), .slice A n c, .slice (some ⟨g, 0, none⟩) 1 1, .int .i64 (-1)]) ∧ Arr w' g 22 [.slice A n c] ∧ w.heap.size ≤ g ∧ Below w.heap.size w w'
set_option maxRecDepth 20000 in
theorem otherQ (s : List Nat) (A : Option Addr) (n c : Nat) (w : World) (h : Rd w A n (u8s s)) : Calls Try.prog 9 #[.slice A n c] w (OtherOut s A n c w) := by
  have cv := rd_str (c := c) (h.alloc (.cells #[.string ⟨#[]⟩, .slice none 0 0, .slice none 0 0, .int .i64 0] 29))
  obtain ⟨st, hst⟩ : ∃ st, st = strOf s := ⟨_, rfl⟩
  rw [← hst] at cv
  unfold OtherOut
  rw [← hst]
  clear h hst
  go_enter Try.func9, Try.ntmps9
  go_wp2_with fail
  have A0 := (Arr.of_new w 29 #[.string st, .slice A n c, .slice (some ⟨w.heap.size + 1, 0, none⟩) 1 1, .int .i64 (-1)]).alloc (.cells #[.slice A n c] 22)
  have A1 := Arr.of_new (w.alloc (.cells #[.string st, .slice A n c, .slice (some ⟨w.heap.size + 1, 0, none⟩) 1 1, .int .i64 (-1)] 29)) 22 #[.slice A n c]
  rw [World.size_alloc] at A1
  have hB := ((Below.refl w.heap.size w).alloc (Nat.le_refl _) (.cells #[.string st, .slice A n c, .slice (some ⟨w.heap.size + 1, 0, none⟩) 1 1, .int .i64 (-1)] 29)).alloc (by rw [World.size_alloc]; omega) (.cells #[.slice A n c] 22)
  have q0 := A0.cell? 0
  have q1 := A0.cell? 1
  have q2 := A0.cell? 2
  have q3 := A0.cell? 3
  generalize (w.alloc (.cells #[.string st, .slice A n c, .slice (some ⟨w.heap.size + 1, 0, none⟩) 1 1, .int .i64 (-1)] 29)).alloc (.cells #[.slice A n c] 22) = w1 at *
  simp only [List.getElem?_cons_zero, List.getElem?_cons_succ] at q0 q1 q2 q3
  refine bodyPost_ret (v := .agg #[.string st, .slice A n c, .slice (some ⟨w.heap.size + 1, 0, none⟩) 1 1, .int .i64 (-1)]) (by simp [results, Try.results9, go_sem, q0, q1, q2, q3]) rfl ?_
  exact ⟨w.heap.size + 1, rfl, A1, by omega, hB⟩
end Go.Proofs.Ytpffffhgmhpkiaa
