/- QR codes: copyBit and doDecodeFormatInformation. -/
import Derived.Test.YtpffffhgmhpkiaaQaR
namespace Go.Proofs.Ytpffffhgmhpkiaa
open Go.RowKit
set_option linter.unusedVariables false
set_option linter.unusedSimpArgs false

/-- A parser in memory, without a mirror. -/
def ParAt (w : World) (p q : Nat) : Prop := w.cell? ⟨p, 0, none⟩ = some (.pointer (some ⟨q, 0, none⟩)) ∧ w.cell? ⟨p, 3, none⟩ = some (.bool false)
set_option maxRecDepth 20000 in
set_option maxHeartbeats 4000000 in
theorem copyBit (p q g W H rs x y a : Nat) (ws : List Nat) (B : Nat → Nat → Bool) (w : World) (hP : ParAt w p q) (h : IsMat w q g 175 218 W H rs ws B) (hx : x < W) (hy : y < H) (hH : H ≤ 1000) (hrs : rs ≤ 32) (ha : a < 1048576) :
    Calls Try.prog 68 #[.pointer (some ⟨p, 0, none⟩), .int .i64 x, .int .i64 y, .int .i64 a] w fun e w' => e = .returned (.int .i64 (2 * a + (if B x y = true then 1 else 0) : Nat)) ∧ w = w' := by
  obtain ⟨h0, h3⟩ := hP
  have gb := getBit q g W H rs x y ws B w h hx hy hH hrs
  have HO := hid (i64_or_one a (by omega))
  clear h
  cases hb : B x y with
  | true =>
    rw [hb] at gb
    have e1 : bits .or .i64 ((a : Int) * 2) 1 = 2 * (a : Int) + 1 := by rw [HO.out]; omega
    have HE := hid (show (2 * (a : Int) + 1) = ((2 * a + (if true = true then 1 else 0) : Nat) : Int) by simp)
    clear hb
    rw [← HE.out]
    go_enter Try.func68, Try.ntmps68
    go_wp2_with fail
    refine gb.mono ?_
    rintro e w1 ⟨rfl, rfl⟩
    go_wp2_with fail
    go_ret
    exact ⟨rfl, rfl⟩
  | false =>
    rw [hb] at gb
    have HE := hid (show ((a : Int) * 2) = ((2 * a + (if false = true then 1 else 0) : Nat) : Int) by simp; omega)
    clear hb
    rw [← HE.out]
    go_enter Try.func68, Try.ntmps68
    go_wp2_with fail
    refine gb.mono ?_
    rintro e w1 ⟨rfl, rfl⟩
    go_wp2_with fail
    go_ret
    exact ⟨rfl, rfl⟩
/-- What is best so far: nothing near before row k, row k from there on. -/
def FBest (k i b bi : Nat) : Prop := (i ≤ k ∧ 3 < b) ∨ (k < i ∧ b ≤ 3 ∧ bi = k)
theorem far_zero {x y : Nat} (hx : x < 262144) (hy : y < 262144) (h : far x y = 0) : x = y := by
  rcases Nat.eq_zero_or_pos (x ^^^ y) with e | e
  · have := congrArg (· ^^^ y) e
    simpa [Nat.xor_assoc, Nat.xor_self] using this
  · have := pops_pos 18 (x ^^^ y) e (xor_lt18 hx hy)
    unfold far at h; omega
def PtrFmt (k : Nat) (w : World) (e : Ending) (w' : World) : Prop := ∃ q, e = .returned (.pointer (some ⟨q, 0, none⟩)) ∧ w'.cell? ⟨q, 0, none⟩ = some (.int .i64 ((k : Int) / 8)) ∧ w'.cell? ⟨q, 1, none⟩ = some (.int .u8 ((k : Int) % 8)) ∧ q < w'.heap.size ∧ Below w.heap.size w w'
theorem PtrFmt.back {k : Nat} {w1 w : World} {e : Ending} {w' : World} (hb : Below w.heap.size w w1) (h : FormOut k w1 e w') : PtrFmt k w e w' := by
  obtain ⟨q, a, b, c, d, e⟩ := h
  exact ⟨q, a, b, c, d, hb.trans (e.mono hb.size)⟩
set_option maxRecDepth 20000 in
set_option maxHeartbeats 8000000 in
theorem doDec (x y k : Nat) (hx : x < 32768) (hy : y < 32768) (hk : k < 32) (h1 : far x (fb k) ≤ 3) (h2 : far y (fb k) ≤ 3) (w : World) :
    Calls Try.prog 116 #[.int .u64 x, .int .u64 y] w (PtrFmt k w) := by
  have ft := fun W => forTab W
  have DF := hid (fun i W => differ x (fb i) (by omega) (by have := fb_lt i; omega) W)
  have DG := hid (fun i W => differ y (fb i) (by omega) (by have := fb_lt i; omega) W)
  have NF := hid (fun W => newForm k hk W)
  have NX := hid (fun i (hi : i < 32) (h : far x (fb i) ≤ 3) => near_f x i k hi hk h h1)
  have NY := hid (fun i (hi : i < 32) (h : far y (fb i) ≤ 3) => near_f y i k hi hk h h2)
  have H1 := hid h1
  have H2 := hid h2
  have EQX := hid (fun i (hi : i < 32) (h : fb i = x) => near_f x i k hi hk (by rw [h, far_self]; omega) h1)
  have EQY := hid (fun i (hi : i < 32) (h : fb i = y) => near_f y i k hi hk (by rw [h, far_self]; omega) h2)
  have LEX := hid (fun i => far_le x (fb i))
  have LEY := hid (fun i => far_le y (fb i))
  have SAME := hid (fun (h : x = y) i => congrArg (fun z => far z (fb i)) h)
  clear h1 h2
  go_enter Try.func116, Try.ntmps116
  go_wp2_with fail
  refine (ft _).mono ?_
  rintro e w1 ⟨G, rfl, hG, hb1, hrow⟩
  have HROW := hid hrow
  have HB1 := hid hb1
  clear hrow hb1 ft
  go_wp2_with fail
  go_loopw [5, 6, 13] (fun bv vv iv wr => ∃ i b bi : Nat, i ≤ 32 ∧ FBest k i b bi ∧ b ≤ 2147483647 ∧ bi ≤ 32 ∧ bv = .int .i64 b ∧ vv = .int .u64 bi ∧ iv = .int .i64 i ∧ w1 = wr) (fun _ _ iv _ => 32 - (intOf iv).toNat)
  case atStart => exact ⟨0, 2147483647, 0, by omega, .inl ⟨by omega, by omega⟩, by omega, by omega, rfl, rfl, rfl, rfl⟩
  case round =>
    obtain ⟨i, b, bi, hi, hbest, hb, hbi, rfl, rfl, rfl, rfl⟩ := hrel
    have HBEST := hid hbest
    clear hbest
    by_cases hlt : i < 32
    · have hlt' : (i : Int) < 32 := by omega
      obtain ⟨g, hg, c0, c1, c2⟩ := HROW.out i hlt
      have df := DF.out i w1
      have dg := DG.out i w1
      have hfl := LEX.out i
      have hgl := LEY.out i
      have hfb := fb_lt i
      have HD := hid (show (i = k → far x (fb i) ≤ 3 ∧ far y (fb i) ≤ 3) ∧ (i ≠ k → 3 < far x (fb i) ∧ 3 < far y (fb i)) from
        ⟨fun h => by rw [h]; exact ⟨H1.out, H2.out⟩, fun h => ⟨Nat.lt_of_not_le fun h' => h (NX.out i hlt h'), Nat.lt_of_not_le fun h' => h (NY.out i hlt h')⟩⟩)
      have HEX := hid (EQX.out i hlt)
      have HEY := hid (EQY.out i hlt)
      generalize fb i = t at *
      generalize far x t = d at *
      generalize far y t = d2 at *
      by_cases hex : t = x
      · have hik := HEX.out hex
        subst hex
        subst hik
        clear df dg
        go_wp2_with fail
        refine (NF.out _).mono ?_
        rintro e w2 h
        have HP := hid (PtrFmt.back HB1.out h)
        obtain ⟨q, rfl, _⟩ := h
        go_wp2_with fail
        go_ret
        exact HP.out
      by_cases hey : t = y
      · have hik := HEY.out hey
        subst hey
        subst hik
        have hne : ((t : Int) == (x : Int)) = false := by simp; omega
        clear df dg hex
        go_wp2_with fail
        refine (NF.out _).mono ?_
        rintro e w2 h
        have HP := hid (PtrFmt.back HB1.out h)
        obtain ⟨q, rfl, _⟩ := h
        go_wp2_with fail
        go_ret
        exact HP.out
      have hne : ((t : Int) == (x : Int)) = false := by simp; omega
      have hne2 : ((t : Int) == (y : Int)) = false := by simp; omega
      clear hex hey EQX EQY NX NY H1 H2 SAME LEX LEY DF DG HEX HEY
      by_cases hxy : x = y
      · subst hxy
        clear dg
        by_cases hd : d < b
        · have hd' : (d : Int) < (b : Int) := by omega
          go_wp2_with fail
          refine df.mono ?_
          rintro e w2 ⟨rfl, rfl⟩
          clear df
          go_wp2_with fail
          go_roundw
          case rel => exact ⟨i + 1, d, i, by omega, by have h1 := HBEST.out; have h2 := HD.out; unfold FBest at h1 ⊢; omega, by omega, by omega, rfl, rfl, by go_num, by first | rfl | trivial⟩
          case measure => simp [intOf]; omega
        · have hd' : ¬ (d : Int) < (b : Int) := by omega
          go_wp2_with fail
          refine df.mono ?_
          rintro e w2 ⟨rfl, rfl⟩
          clear df
          go_wp2_with fail
          go_roundw
          case rel => exact ⟨i + 1, b, bi, by omega, by have h1 := HBEST.out; have h2 := HD.out; unfold FBest at h1 ⊢; omega, by omega, by omega, rfl, rfl, by go_num, by first | rfl | trivial⟩
          case measure => simp [intOf]; omega
      · have hxy' : ((x : Int) == (y : Int)) = false := by simp; omega
        clear hxy
        by_cases hd : d < b
        · have hd' : (d : Int) < (b : Int) := by omega
          by_cases he : d2 < d
          · have he' : (d2 : Int) < (d : Int) := by omega
            go_wp2_with fail
            refine df.mono ?_
            rintro e w2 ⟨rfl, rfl⟩
            clear df
            go_wp2_with fail
            refine dg.mono ?_
            rintro e w2 ⟨rfl, rfl⟩
            clear dg
            go_wp2_with fail
            go_roundw
            case rel => exact ⟨i + 1, d2, i, by omega, by have h1 := HBEST.out; have h2 := HD.out; unfold FBest at h1 ⊢; omega, by omega, by omega, rfl, rfl, by go_num, by first | rfl | trivial⟩
            case measure => simp [intOf]; omega
          · have he' : ¬ (d2 : Int) < (d : Int) := by omega
            go_wp2_with fail
            refine df.mono ?_
            rintro e w2 ⟨rfl, rfl⟩
            clear df
            go_wp2_with fail
            refine dg.mono ?_
            rintro e w2 ⟨rfl, rfl⟩
            clear dg
            go_wp2_with fail
            go_roundw
            case rel => exact ⟨i + 1, d, i, by omega, by have h1 := HBEST.out; have h2 := HD.out; unfold FBest at h1 ⊢; omega, by omega, by omega, rfl, rfl, by go_num, by first | rfl | trivial⟩
            case measure => simp [intOf]; omega
        · have hd' : ¬ (d : Int) < (b : Int) := by omega
          by_cases he : d2 < b
          · have he' : (d2 : Int) < (b : Int) := by omega
            go_wp2_with fail
            refine df.mono ?_
            rintro e w2 ⟨rfl, rfl⟩
            clear df
            go_wp2_with fail
            refine dg.mono ?_
            rintro e w2 ⟨rfl, rfl⟩
            clear dg
            go_wp2_with fail
            go_roundw
            case rel => exact ⟨i + 1, d2, i, by omega, by have h1 := HBEST.out; have h2 := HD.out; unfold FBest at h1 ⊢; omega, by omega, by omega, rfl, rfl, by go_num, by first | rfl | trivial⟩
            case measure => simp [intOf]; omega
          · have he' : ¬ (d2 : Int) < (b : Int) := by omega
            go_wp2_with fail
            refine df.mono ?_
            rintro e w2 ⟨rfl, rfl⟩
            clear df
            go_wp2_with fail
            refine dg.mono ?_
            rintro e w2 ⟨rfl, rfl⟩
            clear dg
            go_wp2_with fail
            go_roundw
            case rel => exact ⟨i + 1, b, bi, by omega, by have h1 := HBEST.out; have h2 := HD.out; unfold FBest at h1 ⊢; omega, by omega, by omega, rfl, rfl, by go_num, by first | rfl | trivial⟩
            case measure => simp [intOf]; omega
    · obtain rfl : i = 32 := by omega
      have h1 := HBEST.out
      unfold FBest at h1
      have hb3 : (b : Int) ≤ 3 := by omega
      obtain rfl : bi = k := by omega
      clear h1
      go_wp2_with fail
      refine (NF.out _).mono ?_
      rintro e w2 h
      have HP := hid (PtrFmt.back HB1.out h)
      obtain ⟨q, rfl, _⟩ := h
      go_wp2_with fail
      go_ret
      exact HP.out
set_option maxRecDepth 20000 in
theorem decFmt (x y k : Nat) (hx : x < 32768) (hy : y < 32768) (hk : k < 32) (h1 : far x (fb k) ≤ 3) (h2 : far y (fb k) ≤ 3) (w : World) :
    Calls Try.prog 72 #[.int .u64 x, .int .u64 y] w (PtrFmt k w) := by
  have dd := doDec x y k hx hy hk h1 h2 w
  clear h1 h2
  go_enter Try.func72, Try.ntmps72
  go_wp2_with fail
  refine dd.mono ?_
  rintro e w2 h
  have HP := hid h
  obtain ⟨q, rfl, _⟩ := h
  clear dd
  go_wp2_with fail
  go_ret
  exact HP.out
end Go.Proofs.Ytpffffhgmhpkiaa
