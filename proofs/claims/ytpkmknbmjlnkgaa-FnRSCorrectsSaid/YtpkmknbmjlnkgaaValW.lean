/- The walks of a polynomial's value, by the package and by the reference. -/
import Derived.Test.YtpkmknbmjlnkgaaListW
import Derived.Test.YtpkmknbmjlnkgaaEval
namespace Go.Proofs.Ytpkmknbmjlnkgaa
open Go.RowKit
set_option linter.unusedVariables false

/-- A coefficient of a polynomial in memory. -/
theorem IsPoly.coef {w : World} {B q : Nat} {F : Value} {l : List Nat} (h : IsPoly w B q F l) (h1 : 1 ≤ l.length) :
    ∃ b o c, w.cell? ⟨q, 0, none⟩ = some F ∧ w.cell? ⟨q, 1, none⟩ = some (.slice (some ⟨b, o, none⟩) l.length c) ∧ ∀ k, k < l.length → w.cell? ⟨b, o + k, none⟩ = some (.int .i64 (l.getD k 0 : Nat)) := by
  obtain ⟨_, A, n, c, _, _, hq, hR⟩ := h
  have hl : l.length = n := by have := hR.1; simpa [ints] using this
  subst hl
  obtain ⟨b, o, rfl, _, _⟩ := rd_int hR 0 (by omega)
  refine ⟨b, o, c, hq.cell? 0, hq.cell? 1, fun k hk => ?_⟩
  obtain ⟨b', o', he, _, hc⟩ := rd_int hR k hk
  cases he
  exact hc

set_option maxHeartbeats 1000000 in
theorem getCoefficient (q d : Nat) (B : Nat) (F : Value) (l : List Nat) (w : World) (hP : IsPoly w B q F l) (hd : d < l.length) (hl : l.length ≤ 1000000) :
    Calls Try.prog 49 #[fieldPtr q, .int .i64 d] w (DrewOut (.int .i64 (l.getD (l.length - 1 - d) 0 : Nat)) w) := by
  obtain ⟨b, o, c, c0, c1, hc⟩ := hP.coef (by omega)
  have ck := hc (l.length - 1 - d) (by omega)
  generalize l.getD (l.length - 1 - d) 0 = x at *
  have e1 : (l.length : Int) - 1 - d = ((l.length - 1 - d : Nat) : Int) := by omega
  have h1 : (0 : Int) ≤ (l.length : Int) - 1 - d := by omega
  have h2 : (l.length : Int) - 1 - d < (l.length : Int) := by omega
  generalize l.length = n at *
  clear hP hc
  unfold fieldPtr
  have h3 : ((n : Int) - 1 - d).toNat = n - 1 - d := by omega
  clear e1
  go_enter Try.func49, Try.ntmps49
  go_wp2
  go_quiet (fail)
  go_wp2
  go_ret
  exact ⟨rfl, _, rfl⟩

theorem addOr (x y : Nat) (hx : x < 65536) (hy : y < 65536) (w : World) :
    Calls Try.prog 32 #[.int .i64 x, .int .i64 y] w fun e w' => e = .returned (.int .i64 (x ^^^ y : Nat)) ∧ w = w' := by
  have hb : bits .xor .i64 (x : Int) (y : Int) = ((x ^^^ y : Nat) : Int) := i64_xor x y (by omega) (by omega)
  go_enter Try.func32, Try.ntmps32
  go_wp2
  go_ret
  exact ⟨rfl, rfl⟩

set_option maxHeartbeats 2000000 in
theorem evaluateAt (q g p m base B x : Nat) (l : List Nat) (w : World) (h : IsGF p m) (hF : IsField w g p m base) (hP : IsPoly w B q (fieldPtr g) l) (hl1 : 1 ≤ l.length) (hl : l.length ≤ 1000000) (hx : x < 2 ^ m) (hA : AllIn m l) :
    Calls Try.prog 36 #[fieldPtr q, .int .i64 x] w (DrewOut (.int .i64 (valAt p m x l : Nat)) w) := by
  have hN1 : 2 ^ m ≤ 4096 := Nat.pow_le_pow_right (n := 2) (by omega) h.small
  obtain ⟨b, o, c, c0, c1, hc⟩ := hP.coef hl1
  rcases (by omega : x = 0 ∨ x = 1 ∨ 2 ≤ x) with rfl | rfl | h2
  · rw [val_zero p m l hl1]
    unfold fieldPtr
    show Calls Try.prog 36 #[.pointer (some ⟨q, 0, none⟩), .int .i64 0] _ _
    go_enter Try.func36, Try.ntmps36
    go_wp2_with fail
    have gc := getCoefficient q 0 B (fieldPtr g) l w hP (by omega) hl
    rw [Nat.sub_zero] at gc
    refine gc.mono ?_
    rintro e w1 ⟨rfl, nq, rfl⟩
    go_wp2_with fail
    go_ret
    exact ⟨rfl, _, rfl⟩
  · unfold fieldPtr
    show Calls Try.prog 36 #[.pointer (some ⟨q, 0, none⟩), .int .i64 1] _ _
    go_enter Try.func36, Try.ntmps36
    go_wp2_with fail
    go_loop [5, 7, 22] (fun r _ i => ∃ k : Nat, k ≤ l.length ∧ i = .int .i64 k ∧ r = .int .i64 (hornTo p m 1 l k : Nat)) (fun _ _ i => l.length - (intOf i).toNat)
    case atStart => exact ⟨0, by omega, rfl, rfl⟩
    case round =>
      obtain ⟨k, hk, rfl, rfl⟩ := hrel
      by_cases hlt : k < l.length
      · have hlt' : (k : Int) < (l.length : Int) := by omega
        have ck := hc k hlt
        have h1 := hornTo_lt h hA (one_lt h) k
        have h2 := getD_lt h hA k
        have HS := hid (horn_one h hA k)
        have ao := fun W => addOr (hornTo p m 1 l k) (l.getD k 0) (by omega) (by omega) W
        generalize hornTo p m 1 l k = r at *
        generalize l.getD k 0 = y at *
        clear hc h1 h2
        go_wp2_with (go_at_call 32; ((with_reducible refine (ao _).mono ?_); rintro e w' ⟨rfl, rfl⟩))
        go_round
        case rel => exact ⟨k + 1, by omega, by go_num, by rw [HS.out]⟩
        case measure => simp [intOf]; omega
      · obtain rfl : k = l.length := by omega
        have hlt' : ¬ (l.length : Int) < (l.length : Int) := by omega
        clear hc
        go_wp2
        go_ret
        exact ⟨rfl, 0, rfl⟩
  · have hx0 : ((x : Int) == 0) = false := by rw [beq_eq_false_iff_ne]; omega
    have hx1 : ((x : Int) == 1) = false := by rw [beq_eq_false_iff_ne]; omega
    have ck0 := hc 0 (by omega)
    rw [Nat.add_zero] at ck0
    have hlen0 : (0 : Int) < (l.length : Int) := by omega
    have HF1 := hid (horn_first p m x l)
    generalize l.getD 0 0 = y0 at ck0 HF1
    unfold fieldPtr
    go_enter Try.func36, Try.ntmps36
    go_wp2_with fail
    rw [← HF1.out]
    go_loopw [8, 10] (fun r i wr => ∃ k : Nat, 1 ≤ k ∧ k ≤ l.length ∧ i = .int .i64 k ∧ r = .int .i64 (hornTo p m x l k : Nat) ∧ ∃ nq, wr = w.drewN nq) (fun _ i _ => l.length - (intOf i).toNat)
    case atStart => exact ⟨1, by omega, hl1, rfl, rfl, 0, rfl⟩
    case round =>
      obtain ⟨k, hk1, hk, rfl, rfl, nq, rfl⟩ := hrel
      by_cases hlt : k < l.length
      · have hlt' : (k : Int) < (l.length : Int) := by omega
        have hk0 : (0 : Int) ≤ (k : Int) := by omega
        have ck := hc k hlt
        have h1 := hornTo_lt h hA hx k
        have h3 := gm_lt h hx (hornTo p m x l k)
        have h4 := getD_lt h hA k
        have HS := hid (show hornTo p m x l (k + 1) = gm p m x (hornTo p m x l k) ^^^ l.getD k 0 from rfl)
        have c0' : (w.drewN nq).cell? ⟨q, 0, none⟩ = some (fieldPtr g) := c0
        have c1' : (w.drewN nq).cell? ⟨q, 1, none⟩ = some (.slice (some ⟨b, o, none⟩) l.length c) := c1
        have ck' : (w.drewN nq).cell? ⟨b, o + k, none⟩ = some (.int .i64 (l.getD k 0 : Nat)) := ck
        have hF' : IsField (w.drewN nq) g p m base := hF
        obtain ⟨W, hW⟩ : ∃ W, W = w.drewN nq := ⟨_, rfl⟩
        rw [← hW] at c0' c1' ck' hF' ⊢
        have HW := hid hW
        have mu := fun n => multiply g p m base x (hornTo p m x l k) (W.drewN n) h hF' hx h1
        have ao := fun W => addOr (gm p m x (hornTo p m x l k)) (l.getD k 0) (by omega) (by omega) W
        generalize gm p m x (hornTo p m x l k) = s at *
        generalize hornTo p m x l k = r at *
        generalize l.getD k 0 = y at *
        clear hc h1 h3 h4 ck0 hW ck c0 c1 hF hF'
        unfold fieldPtr at *
        go_wp2_with fail
        go_quiet ((first | (go_at_call 31; exact (mu _).mono fun _ _ hh => ⟨hh.1, by obtain ⟨n2, hn2⟩ := hh.2; exact ⟨_, hn2.trans (World.drewN_drewN _ _ _)⟩⟩) | (go_at_call 32; exact (ao _).mono fun _ _ hh => ⟨hh.1, _, hh.2.symm⟩)))
        go_wp2
        go_roundw
        case rel => exact ⟨k + 1, by omega, by omega, by go_num, by rw [HS.out], _, by rw [HW.out, World.drewN_drewN]⟩
        case measure => simp [intOf]; omega
      · obtain rfl : k = l.length := by omega
        have hlt' : ¬ (l.length : Int) < (l.length : Int) := by omega
        clear hc ck0
        go_wp2
        go_ret
        exact ⟨rfl, _, rfl⟩

set_option maxHeartbeats 2000000 in
theorem rsAt (p m N base x : Nat) (A : Option Addr) (n c : Nat) (l : List Nat) (w : World) (h : IsGF p m) (hN : Hid (N = 2 ^ m)) (hR : Rd w A n (ints l)) (hn : n ≤ 1000000) (hx : x < N) (hA : AllIn m l) :
    Calls Try.prog 17 #[fieldVal p N base, .slice A n c, .int .i64 x] w (ValOut (.int .i64 (valAt p m x l : Nat)) w) := by
  have hl : l.length = n := by have := hR.1; simpa [ints] using this
  have hN1 : N ≤ 4096 := by rw [hN.out]; exact Nat.pow_le_pow_right (n := 2) (by omega) h.small
  have HV := hid (val_sum h hA (by rw [← hN.out]; exact hx))
  rw [hl] at HV
  unfold fieldVal
  go_enter Try.func17, Try.ntmps17
  go_wp2
  have A0 := Arr.of_new w 23 #[.int .i64 p, .int .i64 N, .int .i64 base]
  have B0 : Below w.heap.size w (w.alloc (.cells #[.int .i64 p, .int .i64 N, .int .i64 base] 23)) := (Below.refl _ _).alloc (Nat.le_refl _) _
  generalize w.alloc (.cells #[.int .i64 p, .int .i64 N, .int .i64 base] 23) = w1 at A0 B0 ⊢
  go_loopw [7, 8, 9] (fun out pw i wr => ∃ t : Nat, t ≤ n ∧ i = .int .i64 ((n : Int) - 1 - t) ∧ out = .int .i64 (sumTo p m x l t : Nat) ∧ pw = .int .i64 (powTo p m x t : Nat) ∧ Arr wr w.heap.size 23 [.int .i64 p, .int .i64 N, .int .i64 base] ∧ Below w.heap.size w wr) (fun _ _ i _ => (intOf i + 1).toNat)
  case atStart => exact ⟨0, by omega, by go_num, rfl, rfl, A0, B0⟩
  case round =>
    obtain ⟨t, ht, rfl, rfl, rfl, hAr, hB⟩ := hrel
    by_cases hlt : t < n
    · have hge : (0 : Int) ≤ (n : Int) - 1 - t := by omega
      have hlt2 : (n : Int) - 1 - t < (n : Int) := by omega
      have htn : ((n : Int) - 1 - t).toNat = n - 1 - t := by omega
      obtain ⟨b, o, rfl, hbw, hc⟩ := rd_int (hR.below hB) (n - 1 - t) (by omega)
      have h1 := sumTo_lt h hA (x := x) t
      have h2 := powTo_lt h (x := x) t
      have h3 := getD_lt h hA (n - 1 - t)
      have h4 := gm_lt h h3 (powTo p m x t)
      rw [← hN.out] at h1 h2 h3 h4
      have HS := hid (show sumTo p m x l (t + 1) = sumTo p m x l t ^^^ gm p m (l.getD (n - 1 - t) 0) (powTo p m x t) by rw [← hl]; rfl)
      have HP := hid (show powTo p m x (t + 1) = gm p m (powTo p m x t) x from rfl)
      have c1 := fun W => rsTimes p m N base (l.getD (n - 1 - t) 0) (powTo p m x t) W h hN h3 h2
      have c2 := fun W => rsTimes p m N base (powTo p m x t) x W h hN h2 hx
      have hxor : bits .xor .i64 ((sumTo p m x l t : Nat) : Int) ((gm p m (l.getD (n - 1 - t) 0) (powTo p m x t) : Nat) : Int) = ((sumTo p m x l t ^^^ gm p m (l.getD (n - 1 - t) 0) (powTo p m x t) : Nat) : Int) := i64_xor _ _ (by omega) (by omega)
      generalize gm p m (l.getD (n - 1 - t) 0) (powTo p m x t) = s at *
      generalize gm p m (powTo p m x t) x = pw2 at *
      generalize powTo p m x t = pw at *
      generalize sumTo p m x l t = su at *
      generalize l.getD (n - 1 - t) 0 = lt at *
      have d0 := hAr.cell? 0
      have d1 := hAr.cell? 1
      have d2 := hAr.cell? 2
      have hgl := hAr.lt
      try simp only at d0 d1 d2
      unfold fieldVal at *
      have HAr := hid hAr
      clear hAr h1 h2 h3 h4 hl hR
      go_wp2_with fail
      go_region_held3 (fun w' => w'.cell? ⟨w.heap.size, 0, none⟩ = some (.int .i64 p) ∧ w'.cell? ⟨w.heap.size, 1, none⟩ = some (.int .i64 N) ∧ w'.cell? ⟨w.heap.size, 2, none⟩ = some (.int .i64 base) ∧ w'.cell? ⟨b, o + (n - 1 - t), none⟩ = some (.int .i64 lt) ∧ w.heap.size < w'.heap.size ∧ b < w'.heap.size)
        (first | exact ⟨d0, d1, d2, hc, hgl, hbw⟩ | exact keep4_below (by assumption) hb5)
        (first | (go_at_call 13; ((with_reducible refine (c1 _).mono ?_); rintro e w5 ⟨rfl, hb5⟩)))
      have hB5 := (hB.drew).trans (hb5.mono hB.size)
      have hA5 := (HAr.out.drew).below hb5 HAr.out.lt
      have e0 := hA5.cell? 0
      have e1 := hA5.cell? 1
      have e2 := hA5.cell? 2
      try simp only at e0 e1 e2
      have HA5 := hid hA5
      clear hb5 hA5 d0 d1 d2 hc HAr c1
      go_wp2_with (go_at_call 13; ((with_reducible refine (c2 _).mono ?_); rintro e w6 ⟨rfl, hb6⟩))
      go_roundw
      case rel => exact ⟨t + 1, by omega, by go_num, by rw [HS.out], by rw [HP.out], HA5.out.below hb6 HA5.out.lt, hB5.trans (hb6.mono hB5.size)⟩
      case measure => simp [intOf]; omega
    · obtain rfl : t = n := by omega
      have hge : ¬ (0 : Int) ≤ (t : Int) - 1 - t := by omega
      rw [HV.out]
      go_wp2
      go_ret
      exact ⟨rfl, hB⟩
end Go.Proofs.Ytpkmknbmjlnkgaa
