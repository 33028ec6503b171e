/- The first and the last bit: by rows, and by words. -/
import Derived.Test.YtmaghlckgfihcaaBoxW
namespace Go.Proofs.Ytmaghlckgfihcaa
open Go.RowKit
set_option linter.unusedVariables false

section
variable {rs W H : Nat} {ws : List Nat} {R : Nat → Nat → Bool}
theorem word_on (h : Shows rs H ws (allB R W)) (hW : W ≤ 32 * rs) {a b : Nat} (hab : OnB R W H a b) : b * rs + a / 32 < rs * H ∧ (ws.getD (b * rs + a / 32) 0).testBit (a % 32) = true := by
  obtain ⟨h1, h2, h3⟩ := hab
  have h4 : a < 32 * rs := by omega
  refine ⟨pl_lt h4 h2, ?_⟩
  rw [h.bit a b h4 h2]
  simp [allB, h1, h3]
theorem on_word (h : Shows rs H ws (allB R W)) {k i : Nat} (hk : k < rs * H) (hi : i < 32) (hb : (ws.getD k 0).testBit i = true) : OnB R W H (k % rs * 32 + i) (k / rs) := by
  have h0 : 0 < rs := by
    rcases Nat.eq_zero_or_pos rs with h1 | h1
    · rw [h1, Nat.zero_mul] at hk; omega
    · exact h1
  have h1 := Nat.mod_lt k h0
  have h2 : k / rs < H := Nat.div_lt_of_lt_mul hk
  have h3 : k % rs * 32 + i < 32 * rs := by omega
  have h4 : k / rs * rs + (k % rs * 32 + i) / 32 = k := by
    rw [show (k % rs * 32 + i) / 32 = k % rs from by omega, Nat.mul_comm, Nat.div_add_mod]
  have h5 := h.bit (k % rs * 32 + i) (k / rs) h3 h2
  rw [h4, show (k % rs * 32 + i) % 32 = i from by omega, hb] at h5
  unfold allB at h5
  have h5 := h5.symm
  simp only [Bool.and_eq_true, decide_eq_true_eq] at h5
  exact ⟨h5.1, h2, h5.2⟩
theorem first_words (h : Shows rs H ws (allB R W)) (hW : W ≤ 32 * rs) {k lo : Nat} (hk : k < rs * H) (hz : ∀ i, i < k → ws.getD i 0 = 0) (hlo : lo < 32) (hb : (ws.getD k 0).testBit lo = true) (hl : ∀ i, i < lo → (ws.getD k 0).testBit i = false) :
    FirstRes (OnB R W H) [k % rs * 32 + lo, k / rs] := by
  have h0 : 0 < rs := by
    rcases Nat.eq_zero_or_pos rs with h1 | h1
    · rw [h1, Nat.zero_mul] at hk; omega
    · exact h1
  refine .inr ⟨_, _, on_word h hk hlo hb, fun a b hab => ?_, rfl⟩
  obtain ⟨h1, h2⟩ := word_on h hW hab
  obtain ⟨ha, hbH, _⟩ := hab
  have hkk : k ≤ b * rs + a / 32 := by
    rcases Nat.lt_or_ge (b * rs + a / 32) k with h3 | h3
    · rw [hz _ h3] at h2; simp at h2
    · exact h3
  have ha32 : a / 32 < rs := by omega
  have hkm := Nat.mod_lt k h0
  have hkd := Nat.div_add_mod k rs
  rcases Nat.lt_trichotomy (k / rs) b with h3 | h3 | h3
  · exact .inl h3
  · refine .inr ⟨h3, ?_⟩
    have e : b * rs = rs * (k / rs) := by rw [← h3, Nat.mul_comm]
    rcases Nat.lt_trichotomy (k % rs) (a / 32) with h4 | h4 | h4
    · omega
    · have e2 : b * rs + a / 32 = k := by omega
      rw [e2] at h2
      rcases Nat.lt_or_ge (a % 32) lo with h5 | h5
      · rw [hl _ h5] at h2; simp at h2
      · omega
    · omega
  · exfalso
    have h4 : (b + 1) * rs ≤ k / rs * rs := Nat.mul_le_mul_right _ h3
    rw [Nat.add_mul, Nat.one_mul] at h4
    rw [Nat.mul_comm rs] at hkd
    omega
theorem last_words (h : Shows rs H ws (allB R W)) (hW : W ≤ 32 * rs) {k hi : Nat} (hk : k < rs * H) (hz : ∀ i, k < i → i < rs * H → ws.getD i 0 = 0) (hhi : hi < 32) (hb : (ws.getD k 0).testBit hi = true) (hl : ∀ i, (ws.getD k 0).testBit i = true → i ≤ hi) :
    LastRes (OnB R W H) [k % rs * 32 + hi, k / rs] := by
  have h0 : 0 < rs := by
    rcases Nat.eq_zero_or_pos rs with h1 | h1
    · rw [h1, Nat.zero_mul] at hk; omega
    · exact h1
  refine .inr ⟨_, _, on_word h hk hhi hb, fun a b hab => ?_, rfl⟩
  obtain ⟨h1, h2⟩ := word_on h hW hab
  obtain ⟨ha, hbH, _⟩ := hab
  have hkk : b * rs + a / 32 ≤ k := by
    rcases Nat.lt_or_ge k (b * rs + a / 32) with h3 | h3
    · rw [hz _ h3 h1] at h2; simp at h2
    · exact h3
  have ha32 : a / 32 < rs := by omega
  have hkm := Nat.mod_lt k h0
  have hkd := Nat.div_add_mod k rs
  rcases Nat.lt_trichotomy b (k / rs) with h3 | h3 | h3
  · exact .inl h3
  · refine .inr ⟨h3, ?_⟩
    have e : b * rs = rs * (k / rs) := by rw [h3, Nat.mul_comm]
    rcases Nat.lt_trichotomy (a / 32) (k % rs) with h4 | h4 | h4
    · omega
    · have e2 : b * rs + a / 32 = k := by omega
      rw [e2] at h2
      have := hl _ h2
      omega
    · omega
  · exfalso
    have h4 : (k / rs + 1) * rs ≤ b * rs := Nat.mul_le_mul_right _ h3
    rw [Nat.add_mul, Nat.one_mul] at h4
    rw [Nat.mul_comm rs] at hkd
    omega
theorem no_words (h : Shows rs H ws (allB R W)) (hW : W ≤ 32 * rs) (hz : ∀ i, i < rs * H → ws.getD i 0 = 0) (x y : Nat) : ¬ OnB R W H x y := fun hab => by
  obtain ⟨h1, h2⟩ := word_on h hW hab
  rw [hz _ h1] at h2
  simp at h2
end

set_option maxRecDepth 20000 in
set_option maxHeartbeats 8000000 in
theorem firstSpec (A : Option Addr) (c W H : Nat) (R : Nat → Nat → Bool) (w : World) (hX : RdRows w A H (brow R W)) (hW : W ≤ 70) (hH1 : 1 ≤ H) (hH : H ≤ 70) :
    Calls Try.prog 12 #[.slice A H c] w (ResOut (FirstRes (OnB R W H)) w) := by
  obtain ⟨b0, o0, Rr, Cr, rfl, hbw, hX⟩ := hX.opened (by omega)
  have HX := hid (fun k hk => show w.cell? ⟨b0, o0 + k, none⟩ = some (.slice (Rr k) W (Cr k)) ∧ Rd w (Rr k) W (brow R W k) from by have := hX w (Below.refl _ _) k hk; rw [brow_len] at this; exact ⟨this.1, this.2.1⟩)
  clear hX
  go_enter Try.func12, Try.ntmps12
  go_wp2_with fail
  go_loopw [3] (fun yv wr => ∃ (y : Nat), y ≤ H ∧ yv = .int .i64 (y : Nat) ∧ Hid (∀ a b, ¬ Seen R W H y 0 a b) ∧ w = wr) (fun yv _ => H - (intOf yv).toNat)
  case atStart => exact ⟨0, by omega, rfl, hid (fun a b hh => by have := hh.2; omega), rfl⟩
  case round =>
    obtain ⟨y, hy, rfl, HS, rfl⟩ := hrel
    by_cases hlt : y < H
    · have hlt' : (y : Int) < (H : Int) := by omega
      obtain ⟨c1, hr1⟩ := HX.out y hlt
      have HR := hid hr1
      clear hr1
      go_wp2_with fail
      go_loopw [4] (fun xv wr => ∃ (x : Nat), x ≤ W ∧ xv = .int .i64 (x : Nat) ∧ Hid (∀ a b, ¬ Seen R W H y x a b) ∧ w = wr) (fun xv _ => W - (intOf xv).toNat)
      case atStart => exact ⟨0, by omega, rfl, HS, rfl⟩
      case round =>
        clear HS
        obtain ⟨x, hx, rfl, HS, rfl⟩ := hrel
        by_cases hx1 : x < W
        · have hx1' : (x : Int) < (W : Int) := by omega
          obtain ⟨b4, o4, hA4, hb4, c2⟩ := rd_brow HR.out x hx1
          generalize hRy : Rr y = Ry at *
          subst hA4
          cases hb : R y x with
          | false =>
            rw [hb] at c2
            have HS2 := hid (fun a b hh => HS.out a b ((seen_off (W := W) (H := H) hb a b).2 hh))
            clear hb
            go_wp2_with fail
            go_roundw
            case rel => exact ⟨x + 1, by omega, by go_num, HS2, by first | rfl | trivial⟩
            case measure => simp [intOf]; omega
          | true =>
            rw [hb] at c2
            have HP := hid (show FirstRes (OnB R W H) [x, y] from .inr ⟨x, y, ⟨hx1, hlt, hb⟩, fun a b hab => by
              refine Classical.byContradiction fun hn => HS.out a b ⟨hab, ?_⟩
              omega, rfl⟩)
            clear hb
            go_wp2_with fail
            go_ret
            exact ResOut.lit [x, y] HP.out (by simp) (Below.refl _ _) _ (by simp [numsL])
        · obtain rfl : x = W := by omega
          have hx1' : ¬ (x : Int) < (x : Int) := by omega
          have HS2 := hid (fun a b hh => HS.out a b ((seen_row a b).2 hh))
          go_wp2_with fail
          go_roundw
          case rel => exact ⟨y + 1, by omega, by go_num, HS2, by first | rfl | trivial⟩
          case measure => simp [intOf]; omega
    · obtain rfl : y = H := by omega
      have hlt' : ¬ (y : Int) < (y : Int) := by omega
      go_wp2_with fail
      go_ret
      exact ResOut.nil (.inl ⟨rfl, fun a b hab => HS.out a b ((seen_all a b).2 hab)⟩) (Below.refl _ _)

set_option maxRecDepth 20000 in
set_option maxHeartbeats 8000000 in
theorem lastSpec (A : Option Addr) (c W H : Nat) (R : Nat → Nat → Bool) (w : World) (hX : RdRows w A H (brow R W)) (hW : W ≤ 70) (hH1 : 1 ≤ H) (hH : H ≤ 70) :
    Calls Try.prog 14 #[.slice A H c] w (ResOut (LastRes (OnB R W H)) w) := by
  obtain ⟨b0, o0, Rr, Cr, rfl, hbw, hX⟩ := hX.opened (by omega)
  have HX := hid (fun k hk => show w.cell? ⟨b0, o0 + k, none⟩ = some (.slice (Rr k) W (Cr k)) ∧ Rd w (Rr k) W (brow R W k) from by have := hX w (Below.refl _ _) k hk; rw [brow_len] at this; exact ⟨this.1, this.2.1⟩)
  clear hX
  go_enter Try.func14, Try.ntmps14
  go_wp2_with fail
  go_loopw [3] (fun yv wr => ∃ (yi : Int), -1 ≤ yi ∧ yi < H ∧ yv = .int .i64 yi ∧ Hid (∀ (a b : Nat), OnB R W H a b → (b : Int) ≤ yi) ∧ w = wr) (fun yv _ => (intOf yv + 1).toNat)
  case atStart => exact ⟨(H : Int) - 1, by omega, by omega, rfl, hid (fun a b hab => by have := hab.2.1; omega), rfl⟩
  case round =>
    obtain ⟨yi, hy1, hy2, rfl, HS, rfl⟩ := hrel
    by_cases hlt : 0 ≤ yi
    · obtain ⟨y, rfl⟩ := Int.eq_ofNat_of_zero_le hlt
      have hyH : y < H := by omega
      obtain ⟨c1, hr1⟩ := HX.out y hyH
      have HR := hid hr1
      clear hr1
      go_wp2_with fail
      go_loopw [4] (fun xv wr => ∃ (xi : Int), -1 ≤ xi ∧ xi < W ∧ xv = .int .i64 xi ∧ Hid (∀ (a b : Nat), OnB R W H a b → b < y ∨ (b = y ∧ (a : Int) ≤ xi)) ∧ w = wr) (fun xv _ => (intOf xv + 1).toNat)
      case atStart => exact ⟨(W : Int) - 1, by omega, by omega, rfl, hid (fun a b hab => by have := HS.out a b hab; have := hab.1; omega), rfl⟩
      case round =>
        clear HS
        obtain ⟨xi, hx1, hx2, rfl, HS, rfl⟩ := hrel
        by_cases hlx : 0 ≤ xi
        · obtain ⟨x, rfl⟩ := Int.eq_ofNat_of_zero_le hlx
          have hxW : x < W := by omega
          obtain ⟨b4, o4, hA4, hb4, c2⟩ := rd_brow HR.out x hxW
          generalize hRy : Rr y = Ry at *
          subst hA4
          cases hb : R y x with
          | false =>
            rw [hb] at c2
            have HS2 := hid (show ∀ (a b : Nat), OnB R W H a b → b < y ∨ (b = y ∧ (a : Int) ≤ (x : Int) - 1) from fun a b hab => by
              rcases HS.out a b hab with h1 | ⟨h1, h2⟩
              · exact .inl h1
              · refine .inr ⟨h1, ?_⟩
                rcases Nat.lt_or_ge a x with h3 | h3
                · omega
                · exfalso
                  have : a = x := by omega
                  have h4 := hab.2.2
                  rw [this, h1, hb] at h4
                  simp at h4)
            clear hb
            go_wp2_with fail
            go_roundw
            case rel => exact ⟨(x : Int) - 1, by omega, by omega, by go_num, HS2, by first | rfl | trivial⟩
            case measure => simp [intOf] <;> omega
          | true =>
            rw [hb] at c2
            have HP := hid (show LastRes (OnB R W H) [x, y] from .inr ⟨x, y, ⟨hxW, hyH, hb⟩, fun a b hab => by
              have := HS.out a b hab
              omega, rfl⟩)
            clear hb
            go_wp2_with fail
            go_ret
            exact ResOut.lit [x, y] HP.out (by simp) (Below.refl _ _) _ (by simp [numsL])
        · have HS2 := hid (show ∀ (a b : Nat), OnB R W H a b → (b : Int) ≤ (y : Int) - 1 from fun a b hab => by have := HS.out a b hab; omega)
          go_wp2_with fail
          go_roundw
          case rel => exact ⟨(y : Int) - 1, by omega, by omega, by go_num, HS2, by first | rfl | trivial⟩
          case measure => simp [intOf] <;> omega
    · go_wp2_with fail
      go_ret
      exact ResOut.nil (.inl ⟨rfl, fun a b hab => by have := HS.out a b hab; omega⟩) (Below.refl _ _)

section
variable {rs W H : Nat} {ws : List Nat} {R : Nat → Nat → Bool}
theorem shl_test (wd i : Nat) (hi : i ≤ 31) (b : Bool) (h : (wd * 2 ^ (31 - i) % 4294967296 == 0) = b) : ((wd : Int) * 2 ^ (31 - i) % 4294967296 == 0) = b := by
  rw [← h]
  have e : ((wd : Int) * 2 ^ (31 - i) % 4294967296) = ((wd * 2 ^ (31 - i) % 4294967296 : Nat) : Int) := by
    rw [Int.natCast_emod, Int.natCast_mul, Int.natCast_pow]; rfl
  rw [e]
  generalize wd * 2 ^ (31 - i) % 4294967296 = v
  rw [Bool.eq_iff_iff]; simp <;> omega
theorem shr_test (wd i : Nat) (b : Bool) (h : (wd / 2 ^ i == 0) = b) : ((wd : Int) / 2 ^ i == 0) = b := by
  rw [← h]
  have e : ((wd : Int) / 2 ^ i) = ((wd / 2 ^ i : Nat) : Int) := by
    rw [Int.natCast_ediv, Int.natCast_pow]; rfl
  rw [e]
  generalize wd / 2 ^ i = v
  rw [Bool.eq_iff_iff]; simp <;> omega
end

set_option maxRecDepth 20000 in
set_option maxHeartbeats 8000000 in
theorem firstImpl (q g W H rs : Nat) (ws : List Nat) (R : Nat → Nat → Bool) (w : World) (h : IsMat w q g 72 42 W H rs ws (allB R W)) (hrs0 : 1 ≤ rs) (hrs : rs ≤ 3) (hH1 : 1 ≤ H) (hH : H ≤ 70) :
    Calls Try.prog 24 #[.pointer (some ⟨q, 0, none⟩)] w (ResOut (FirstRes (OnB R W H)) w) := by
  obtain ⟨c0, c1, c2, c3⟩ := mat_facts h
  obtain ⟨N, hN⟩ : ∃ N, N = rs * H := ⟨_, rfl⟩
  have hNb : N ≤ 210 := by rw [hN]; exact Nat.mul_le_mul hrs hH
  have HM := hid h
  have HN := hid hN
  rw [← hN] at c3
  have hcell := hid (fun k (hk : k < N) => u32s_at h.bits k (by rw [h.sh.len, ← hN]; exact hk))
  clear h hN
  go_enter Try.func24, Try.ntmps24
  go_wp2_with fail
  go_loopw [3] (fun kv wr => ∃ k : Nat, k ≤ N ∧ kv = .int .i64 (k : Nat) ∧ Hid (∀ i, i < k → ws.getD i 0 = 0) ∧ w = wr) (fun kv _ => N - (intOf kv).toNat)
  case atStart => exact ⟨0, by omega, rfl, hid (fun i hi => by omega), rfl⟩
  case round =>
    obtain ⟨k, hk, rfl, HZ, rfl⟩ := hrel
    by_cases hlt : k < N
    · have hlt' : (k : Int) < (N : Int) := by omega
      have ck := hcell.out k hlt
      have hwl := HM.out.sh.lt k
      by_cases hz : ws.getD k 0 = 0
      · have HZ2 := hid (show ∀ i, i < k + 1 → ws.getD i 0 = 0 from fun i hi => by
          rcases Nat.lt_or_ge i k with h1 | h1
          · exact HZ.out i h1
          · rw [show i = k from by omega]; exact hz)
        rw [hz] at ck
        clear hz hwl
        go_wp2_with fail
        go_roundw
        case rel => exact ⟨k + 1, by omega, by go_num, HZ2, by first | rfl | trivial⟩
        case measure => simp [intOf]; omega
      · obtain ⟨lo, hlo, hb, hl⟩ := low_bit hwl hz
        have HP := hid (first_words HM.out.sh HM.out.wr (by rw [← HN.out]; exact hlt) HZ.out hlo hb hl)
        have HT1 := hid (fun i (hi : i < lo) => shl_test (ws.getD k 0) i (by omega) true (by rw [shl_zero hl hi (by omega)]; rfl))
        have HT2 := hid (shl_test (ws.getD k 0) lo (by omega) false (by rw [beq_eq_false_iff_ne]; exact shl_ne hb hlo))
        have hz' : (((ws.getD k 0 : Nat) : Int) == 0) = false := by rw [beq_eq_false_iff_ne]; omega
        have hne : ((k : Int) == (N : Int)) = false := by rw [beq_eq_false_iff_ne]; omega
        have e1 : (k : Int) / (rs : Int) = ((k / rs : Nat) : Int) := (Int.natCast_ediv _ _).symm
        have e2 : (k : Int) % (rs : Int) = ((k % rs : Nat) : Int) := (Int.natCast_emod _ _).symm
        have hd := Nat.div_le_self k rs
        have hm := Nat.mod_lt k (show 0 < rs by omega)
        generalize ws.getD k 0 = wd at *
        generalize k / rs = ky at *
        generalize k % rs = kx at *
        clear hz hb hl
        go_wp2_with fail
        go_loopw [7] (fun iv wr => ∃ i : Nat, i ≤ lo ∧ iv = .int .u64 (i : Nat) ∧ w = wr) (fun iv _ => lo - (intOf iv).toNat)
        case atStart => exact ⟨0, by omega, rfl, rfl⟩
        case round =>
          obtain ⟨i, hi, rfl, rfl⟩ := hrel
          have t1 : ((31 : Int) - (i : Int)).toNat = 31 - i := by omega
          by_cases hil : i < lo
          · have ht := HT1.out i hil
            go_wp2_with fail
            go_roundw
            case rel => exact ⟨i + 1, by omega, by go_num, by first | rfl | trivial⟩
            case measure => simp [intOf]; omega
          · obtain rfl : i = lo := by omega
            have ht := HT2.out
            go_wp2_with fail
            go_ret
            refine ResOut.lit [kx * 32 + i, ky] HP.out (by simp) (Below.refl _ _) _ ?_
            simp [numsL]
    · obtain rfl : k = N := by omega
      have hlt' : ¬ (k : Int) < (k : Int) := by omega
      go_wp2_with fail
      go_ret
      exact ResOut.nil (.inl ⟨rfl, no_words HM.out.sh HM.out.wr (by rw [← HN.out]; exact HZ.out)⟩) (Below.refl _ _)

set_option maxRecDepth 20000 in
set_option maxHeartbeats 8000000 in
theorem lastImpl (q g W H rs : Nat) (ws : List Nat) (R : Nat → Nat → Bool) (w : World) (h : IsMat w q g 72 42 W H rs ws (allB R W)) (hrs0 : 1 ≤ rs) (hrs : rs ≤ 3) (hH1 : 1 ≤ H) (hH : H ≤ 70) :
    Calls Try.prog 25 #[.pointer (some ⟨q, 0, none⟩)] w (ResOut (LastRes (OnB R W H)) w) := by
  obtain ⟨c0, c1, c2, c3⟩ := mat_facts h
  obtain ⟨N, hN⟩ : ∃ N, N = rs * H := ⟨_, rfl⟩
  have hNb : N ≤ 210 := by rw [hN]; exact Nat.mul_le_mul hrs hH
  have HM := hid h
  have HN := hid hN
  rw [← hN] at c3
  have hcell := hid (fun k (hk : k < N) => u32s_at h.bits k (by rw [h.sh.len, ← hN]; exact hk))
  clear h hN
  go_enter Try.func25, Try.ntmps25
  go_wp2_with fail
  go_loopw [3] (fun kv wr => ∃ ki : Int, -1 ≤ ki ∧ ki < N ∧ kv = .int .i64 ki ∧ Hid (∀ (i : Nat), ki < (i : Int) → i < N → ws.getD i 0 = 0) ∧ w = wr) (fun kv _ => (intOf kv + 1).toNat)
  case atStart => exact ⟨(N : Int) - 1, by omega, by omega, rfl, hid (fun i hi h2 => by omega), rfl⟩
  case round =>
    obtain ⟨ki, hk1, hk2, rfl, HZ, rfl⟩ := hrel
    by_cases hlt : 0 ≤ ki
    · obtain ⟨k, rfl⟩ := Int.eq_ofNat_of_zero_le hlt
      have hkN : k < N := by omega
      have ck := hcell.out k hkN
      have hwl := HM.out.sh.lt k
      by_cases hz : ws.getD k 0 = 0
      · have HZ2 := hid (show ∀ (i : Nat), (k : Int) - 1 < (i : Int) → i < N → ws.getD i 0 = 0 from fun i hi h2 => by
          rcases Nat.lt_or_ge k i with h1 | h1
          · exact HZ.out i (by omega) h2
          · rw [show i = k from by omega]; exact hz)
        rw [hz] at ck
        clear hz hwl
        go_wp2_with fail
        go_roundw
        case rel => exact ⟨(k : Int) - 1, by omega, by omega, by go_num, HZ2, by first | rfl | trivial⟩
        case measure => simp [intOf] <;> omega
      · obtain ⟨hi, hhi, hb, hl⟩ := high_bit hwl hz
        have HP := hid (last_words HM.out.sh HM.out.wr (by rw [← HN.out]; exact hkN) (fun i h1 h2 => HZ.out i (by omega) (by rw [HN.out]; exact h2)) hhi hb hl)
        have HT1 := hid (fun i (hi2 : hi < i) => shr_test (ws.getD k 0) i true (by rw [shr_zero hl hi2]; rfl))
        have HT2 := hid (shr_test (ws.getD k 0) hi false (by rw [beq_eq_false_iff_ne]; exact shr_ne hb))
        have hz' : (((ws.getD k 0 : Nat) : Int) == 0) = false := by rw [beq_eq_false_iff_ne]; omega
        have e1 : (k : Int) / (rs : Int) = ((k / rs : Nat) : Int) := (Int.natCast_ediv _ _).symm
        have e2 : (k : Int) % (rs : Int) = ((k % rs : Nat) : Int) := (Int.natCast_emod _ _).symm
        have hd := Nat.div_le_self k rs
        have hm := Nat.mod_lt k (show 0 < rs by omega)
        generalize ws.getD k 0 = wd at *
        generalize k / rs = ky at *
        generalize k % rs = kx at *
        clear hz hb hl
        go_wp2_with fail
        go_loopw [7] (fun iv wr => ∃ i : Nat, hi ≤ i ∧ i ≤ 31 ∧ iv = .int .u64 (i : Nat) ∧ w = wr) (fun iv _ => (intOf iv).toNat)
        case atStart => exact ⟨31, by omega, by omega, rfl, rfl⟩
        case round =>
          obtain ⟨i, hi1, hi2, rfl, rfl⟩ := hrel
          by_cases hil : hi < i
          · have ht := HT1.out i hil
            go_wp2_with fail
            go_roundw
            case rel => exact ⟨i - 1, by omega, by omega, by go_num, by first | rfl | trivial⟩
            case measure => simp [intOf] <;> omega
          · obtain rfl : i = hi := by omega
            have ht := HT2.out
            go_wp2_with fail
            go_ret
            refine ResOut.lit [kx * 32 + i, ky] HP.out (by simp) (Below.refl _ _) _ ?_
            simp [numsL]
    · have hz := no_words HM.out.sh HM.out.wr (by rw [← HN.out]; exact fun i hi => HZ.out i (by omega) hi)
      have HNW := hid hz
      clear hz
      go_wp2_with fail
      go_ret
      exact ResOut.nil (.inl ⟨rfl, HNW.out⟩) (Below.refl _ _)
end Go.Proofs.Ytmaghlckgfihcaa
