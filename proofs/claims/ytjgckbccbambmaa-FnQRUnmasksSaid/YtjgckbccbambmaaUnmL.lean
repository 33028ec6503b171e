/- FnQRUnmasks: the walk of the law. -/
import Derived.Test.YtjgckbccbambmaaUnmW
namespace Go.Proofs.Ytjgckbccbambmaa
open Go.RowKit
set_option linter.unusedVariables false

def tabF (m : Nat) : Value := .func (.func (58 + m)) #[] #[]
theorem unmaskAt (q g n rs m : Nat) (ws : List Nat) (B : Nat → Nat → Bool) (w : World) (hm : m < 8) (h : IsMat w q g 99 30 n n rs ws B) (hn : n ≤ 60) (hrs : rs ≤ 32) :
    Calls Try.prog 43 #[.agg #[tabF m], .pointer (some ⟨q, 0, none⟩), .int .i64 n] w (OffOut q g n rs m B w) := by
  match m, hm with
  | 0, _ => exact unmask0 q g n rs ws B w h hn hrs
  | 1, _ => exact unmask1 q g n rs ws B w h hn hrs
  | 2, _ => exact unmask2 q g n rs ws B w h hn hrs
  | 3, _ => exact unmask3 q g n rs ws B w h hn hrs
  | 4, _ => exact unmask4 q g n rs ws B w h hn hrs
  | 5, _ => exact unmask5 q g n rs ws B w h hn hrs
  | 6, _ => exact unmask6 q g n rs ws B w h hn hrs
  | 7, _ => exact unmask7 q g n rs ws B w h hn hrs
theorem tab_at (w : World) (m : Nat) (hm : m < 8) : (w.alloc (.cells #[.func (.func 58) #[] #[], .func (.func 59) #[] #[], .func (.func 60) #[] #[], .func (.func 61) #[] #[], .func (.func 62) #[] #[], .func (.func 63) #[] #[], .func (.func 64) #[] #[], .func (.func 65) #[] #[]] 76)).cell? ⟨w.heap.size, m, none⟩ = some (tabF m) := by
  have h := (Arr.of_new w 76 #[.func (.func 58) #[] #[], .func (.func 59) #[] #[], .func (.func 60) #[] #[], .func (.func 61) #[] #[], .func (.func 62) #[] #[], .func (.func 63) #[] #[], .func (.func 64) #[] #[], .func (.func 65) #[] #[]]).cell? m
  rw [h]
  match m, hm with
  | 0, _ => rfl
  | 1, _ => rfl
  | 2, _ => rfl
  | 3, _ => rfl
  | 4, _ => rfl
  | 5, _ => rfl
  | 6, _ => rfl
  | 7, _ => rfl
/-- Rows with the mask taken off. -/
def offR (R : Nat → Nat → Bool) (m : Nat) : Nat → Nat → Bool := fun r c => if mBit m c r then !R r c else R r c
theorem off_rows (R : Nat → Nat → Bool) (m n r : Nat) : brow (fun r c => offAll (allB R n) m n c r) n r = brow (offR R m) n r := by
  unfold brow
  refine List.map_congr_left fun c hc => ?_
  have hcn := List.mem_range.1 hc
  unfold offAll allB offR
  simp [hcn]
theorem off_off (R : Nat → Nat → Bool) (m : Nat) : offR (offR R m) m = R := by
  funext r c
  unfold offR
  cases mBit m c r <;> simp

set_option maxRecDepth 20000 in
set_option maxHeartbeats 4000000 in
theorem unmaskRows (A : Option Addr) (c n m : Nat) (R : Nat → Nat → Bool) (w : World) (hX : RdRows w A n (brow R n)) (hn1 : 1 ≤ n) (hn : n ≤ 60) (hm : m < 8) :
    Calls Try.prog 20 #[.int .i64 m, .slice A n c] w (RowsBack n (brow (offR R m) n) w) := by
  obtain ⟨rs, hrs⟩ : ∃ rs, rs = (n + 31) / 32 := ⟨_, rfl⟩
  have gr := gridOf A c n n rs R w hX hn1 (by omega) hn1 (by omega) hrs
  have hrs2 : rs ≤ 32 := by omega
  have hm' : (m : Int) < 8 := by omega
  clear hX hrs
  go_enter Try.func20, Try.ntmps20
  go_wp2_with fail
  refine gr.mono ?_
  rintro e w1 ⟨q, g, ws, rfl, hg, hM, hb1⟩
  have hql := hM.lt
  have HM := hid (fun (W : World) (hW : Below w1.heap.size w1 W) => hM.below hW hql)
  have HB1 := hid hb1
  have MV := hid maskVals
  clear gr hM hb1
  go_wp2_with fail
  have hta := tab_at w1 m hm
  have hb5 := hid (show Below w1.heap.size w1 _ from ((Below.refl w1.heap.size w1).alloc (Nat.le_refl _) (.cells #[.func (.func 58) #[] #[], .func (.func 59) #[] #[], .func (.func 60) #[] #[], .func (.func 61) #[] #[], .func (.func 62) #[] #[], .func (.func 63) #[] #[], .func (.func 64) #[] #[], .func (.func 65) #[] #[]] 76)).drew)
  have hgh := hid (getH q g n n rs ws _ _ (HM.out _ hb5.out))
  have hun := hid (unmaskAt q g n rs m ws _ _ hm (HM.out _ hb5.out) hn hrs2)
  generalize tabF m = tf at *
  go_region_with ((first
    | (go_at_call 42; ((refine (MV.out _).mono ?_); rintro e w5 ⟨rfl, rfl⟩))
    | (go_at_call 44; ((refine hgh.out.mono ?_); rintro e w6 ⟨rfl, rfl⟩))
    | (go_at_call 43; ((refine hun.out.mono ?_); rintro e w7 ⟨rfl, ⟨ws7, hM7⟩, hb7⟩))))
  all_goals (
    have HB7 := hid (HB1.out.trans ((hb5.out.mono HB1.out.size).trans (hb7.mono hg)))
    have ro := rowsOf q g n n rs ws7 _ w7 hM7 (by omega) (by omega) hrs2
    clear hb7 hM7 hta
    go_wp2_with fail
    refine ro.mono ?_
    rintro e w8 ⟨G, rfl, hG, hX8, hb8⟩
    have HX8 := hid hX8
    have HB8 := hid (HB7.out.trans (hb8.mono HB7.out.size))
    clear ro hX8 hb8
    go_wp2_with fail
    go_ret
    exact ⟨G, rfl, Nat.le_trans HB7.out.size hG, HX8.out.congr (fun k _ => off_rows R m n k), HB8.out⟩)

theorem qrMask (x : Nat) (w : World) (hx : x ≤ 255) : Calls Try.prog 18 #[.int .u8 x] w fun e w' => e = .returned (.int .i64 (x % 8 : Nat)) ∧ w = w' := by
  have e1 : (x : Int) % 8 = ((x % 8 : Nat) : Int) := by omega
  have E1 := hid e1
  clear e1
  generalize x % 8 = m at *
  go_enter Try.func18, Try.ntmps18
  go_wp2
  go_ret
  exact ⟨congrArg (fun z => Ending.returned (Value.int .i64 z)) E1.out, rfl⟩

/-- A value is handed back; the world has drawn, no more. -/
def DrewVal (v : Value) (w : World) (e : Ending) (w' : World) : Prop := e = .returned v ∧ ∃ n, w.drewN n = w'

set_option maxRecDepth 20000 in
set_option maxHeartbeats 2000000 in
theorem sameBools (A1 A2 : Option Addr) (c1 c2 n : Nat) (R : Nat → Nat → Bool) (r : Nat) (w : World) (h1 : Rd w A1 n (brow R n r)) (h2 : Rd w A2 n (brow R n r)) (hn : n ≤ 60) :
    Calls Try.prog 46 #[.slice A1 n c1, .slice A2 n c2] w (DrewVal (.bool true) w) := by
  have H1 := hid h1
  have H2 := hid h2
  clear h1 h2
  go_enter Try.func46, Try.ntmps46
  go_wp2_with fail
  go_loopw [13] (fun iv wr => ∃ i m : Nat, i ≤ n ∧ iv = .int .i64 (i : Nat) ∧ w.drewN m = wr) (fun iv _ => n - (intOf iv).toNat)
  case atStart => exact ⟨0, 0, by omega, rfl, rfl⟩
  case round =>
    obtain ⟨i, m, hi, rfl, rfl⟩ := hrel
    by_cases hlt : i < n
    · have hlt' : (i : Int) < (n : Int) := by omega
      obtain ⟨b1, o1, rfl, hb1, hc1⟩ := rd_brow H1.out i hlt
      obtain ⟨b2, o2, rfl, hb2, hc2⟩ := rd_brow H2.out i hlt
      generalize R r i = bb at *
      go_wp2_with fail
      go_quiet (fail)
      go_wp2_with fail
      go_roundw
      case rel => exact ⟨i + 1, _, by omega, by go_num, by first | rfl | exact World.drewN_drewN _ _ _ | trivial⟩
      case measure => simp [intOf]; omega
    · obtain rfl : i = n := by omega
      have hlt' : ¬ (i : Int) < (i : Int) := by omega
      go_wp2_with fail
      go_ret
      exact ⟨rfl, m, rfl⟩

set_option maxRecDepth 20000 in
set_option maxHeartbeats 4000000 in
theorem sameRows (A1 A2 : Option Addr) (c1 c2 n : Nat) (R : Nat → Nat → Bool) (w : World) (h1 : RdRows w A1 n (brow R n)) (h2 : RdRows w A2 n (brow R n)) (hn1 : 1 ≤ n) (hn : n ≤ 60) :
    Calls Try.prog 22 #[.slice A1 n c1, .slice A2 n c2] w (DrewVal (.bool true) w) := by
  obtain ⟨b1, o1, R1, C1, rfl, hbw1, hX1⟩ := h1.opened (by omega)
  obtain ⟨b2, o2, R2, C2, rfl, hbw2, hX2⟩ := h2.opened (by omega)
  have H1 := hid (fun k hk => show w.cell? ⟨b1, o1 + k, none⟩ = some (.slice (R1 k) n (C1 k)) ∧ Rd w (R1 k) n (brow R n k) from by have := hX1 w (Below.refl _ _) k hk; rw [brow_len] at this; exact ⟨this.1, this.2.1⟩)
  have H2 := hid (fun k hk => show w.cell? ⟨b2, o2 + k, none⟩ = some (.slice (R2 k) n (C2 k)) ∧ Rd w (R2 k) n (brow R n k) from by have := hX2 w (Below.refl _ _) k hk; rw [brow_len] at this; exact ⟨this.1, this.2.1⟩)
  clear hX1 hX2 h1 h2
  go_enter Try.func22, Try.ntmps22
  go_wp2_with fail
  go_loopw [13] (fun iv wr => ∃ i m : Nat, i ≤ n ∧ iv = .int .i64 (i : Nat) ∧ w.drewN m = wr) (fun iv _ => n - (intOf iv).toNat)
  case atStart => exact ⟨0, 0, by omega, rfl, rfl⟩
  case round =>
    obtain ⟨i, m, hi, rfl, hw⟩ := hrel
    have HW := hid hw
    have hD := hid (fun (A : Option Addr) (l : List Value) (hr : Rd w A n l) => show Rd wr A n l from hw ▸ hr.drewN m)
    have hcD := hid (fun (a : Addr) => show wr.cell? a = w.cell? a from by rw [← hw]; rfl)
    clear hw
    by_cases hlt : i < n
    · have hlt' : (i : Int) < (n : Int) := by omega
      obtain ⟨hc1, hr1⟩ := H1.out i hlt
      obtain ⟨hc2, hr2⟩ := H2.out i hlt
      have sb := fun M => sameBools (R1 i) (R2 i) (C1 i) (C2 i) n R i (wr.drewN M) ((hD.out _ _ hr1).drewN M) ((hD.out _ _ hr2).drewN M) hn
      rw [← hcD.out] at hc1 hc2
      generalize R1 i = Ra at *
      generalize R2 i = Rb at *
      generalize C1 i = ca at *
      generalize C2 i = cb at *
      clear hr1 hr2
      go_wp2_with fail
      go_quiet ((go_at_call 46; exact (sb _).mono fun _ _ hh => ⟨hh.1, by obtain ⟨n2, hn2⟩ := hh.2; exact ⟨_, hn2.symm.trans (World.drewN_drewN _ _ _)⟩⟩))
      go_wp2_with fail
      go_roundw
      case rel => exact ⟨i + 1, _, by omega, by go_num, by rw [← HW.out]; exact (World.drewN_drewN _ _ _).symm⟩
      case measure => simp [intOf]; omega
    · obtain rfl : i = n := by omega
      have hlt' : ¬ (i : Int) < (i : Int) := by omega
      go_wp2_with fail
      go_ret
      exact ⟨rfl, m, HW.out⟩

set_option maxRecDepth 20000 in
set_option maxHeartbeats 8000000 in
theorem FnQRUnmasks_walk (w : World) (x : Int) (hx : (Lit.int .u8 x).wf = true) (A : Option Addr) (n0 c0 : Nat) (zs : List (List Bool)) (hR : RowsIn w A n0 c0 zs) :
    Calls Try.prog 7 #[.int .u8 x, .slice A n0 c0] w fun e w' => e = .returned (.bool true) ∧ Below w.heap.size w w' := by
  have h0 := wf_u8 hx
  obtain ⟨k, rfl⟩ := Int.eq_ofNat_of_zero_le h0.1
  have hk : k ≤ 255 := by omega
  have ft := fits A n0 c0 zs w hR
  obtain ⟨_, hnc, hcm, hX, hl⟩ := hR
  clear hx h0
  go_enter Try.func7, Try.ntmps7
  go_wp2_with fail
  refine ft.mono ?_
  rintro e w1 ⟨ok, rfl, rfl, hok⟩
  clear ft hl
  cases ok with
  | false =>
    go_wp2_with fail
    go_ret
    exact ⟨rfl, Below.refl _ _⟩
  | true =>
    obtain ⟨hn0, hl⟩ := hok rfl
    obtain ⟨n, hn⟩ : ∃ n, n = min n0 60 := ⟨_, rfl⟩
    have sq := square A n0 c0 n zs w1 hX hl hn0 hn
    have hn60 : n ≤ 60 := by omega
    clear hX hl hok hn
    have qm := qrMask k w1 hk
    have hm8 : k % 8 < 8 := Nat.mod_lt _ (by omega)
    generalize k % 8 = m at *
    go_wp2_with fail
    refine qm.mono ?_
    rintro e w2 ⟨rfl, rfl⟩
    go_wp2_with fail
    refine sq.mono ?_
    rintro e w3 ⟨G, rfl, hG, hS, hb3⟩
    have HS := hid (hS.congr (Y := brow (bitAt zs) n) (fun k hk => sqRow_bool zs n k))
    have HB3 := hid hb3
    clear sq qm hS hb3
    generalize bitAt zs = R at *
    by_cases hz : n = 0
    · subst hz
      go_wp2_with fail
      go_ret
      exact ⟨rfl, HB3.out⟩
    · have hn1 : 1 ≤ n := by omega
      have hz' : ((n : Int) == 0) = false := by rw [beq_eq_false_iff_ne]; omega
      have u1 := unmaskRows (some ⟨G, 0, none⟩) n n m R w3 HS.out hn1 hn60 hm8
      clear hz
      go_wp2_with fail
      refine u1.mono ?_
      rintro e w4 ⟨G2, rfl, hG2, hX2, hb4⟩
      have HX2 := hid hX2
      have HS4 := hid (HS.out.below hb4)
      have HB4 := hid (HB3.out.trans (hb4.mono HB3.out.size))
      clear u1 hX2 hb4 HS
      obtain ⟨b1, o1, R1, C1, he1, hbw1, hX1⟩ := HS4.out.opened (by omega)
      injection he1 with he1
      injection he1 with he1 he2
      subst he1 he2
      obtain ⟨b2, o2, R2, C2, he3, hbw2, hX2⟩ := HX2.out.opened (by omega)
      injection he3 with he3
      injection he3 with he3 he4
      subst he3 he4
      have H1 := hid (fun k hk => show w4.cell? ⟨G, k, none⟩ = some (.slice (R1 k) n (C1 k)) ∧ Rd w4 (R1 k) n (brow R n k) from by have := hX1 w4 (Below.refl _ _) k hk; rw [brow_len, Nat.zero_add] at this; exact ⟨this.1, this.2.1⟩)
      have H2 := hid (fun k hk => show w4.cell? ⟨G2, k, none⟩ = some (.slice (R2 k) n (C2 k)) ∧ Rd w4 (R2 k) n (brow (offR R m) n k) from by have := hX2 w4 (Below.refl _ _) k hk; rw [brow_len, Nat.zero_add] at this; exact ⟨this.1, this.2.1⟩)
      clear hX1 hX2
      have hnn : ((n : Int) == (n : Int)) = true := by simp
      go_wp2_with fail
      go_loopw [30] (fun iv wr => ∃ i mm : Nat, i ≤ n ∧ iv = .int .i64 (i : Nat) ∧ w4.drewN mm = wr) (fun iv _ => n - (intOf iv).toNat)
      case atStart => exact ⟨0, 0, by omega, rfl, rfl⟩
      case round =>
        obtain ⟨i, mm, hi, rfl, rfl⟩ := hrel
        by_cases hlt : i < n
        · have hlt' : (i : Int) < (n : Int) := by omega
          go_wp2_with fail
          go_loopw [35] (fun jv wr => ∃ j m2 : Nat, j ≤ n ∧ jv = .int .i64 (j : Nat) ∧ w4.drewN m2 = wr) (fun jv _ => n - (intOf jv).toNat)
          case atStart => exact ⟨0, mm, by omega, rfl, rfl⟩
          case round =>
            obtain ⟨j, m2, hj, rfl, hw⟩ := hrel
            have HW := hid hw
            have hD := hid (fun (A : Option Addr) (l : List Value) (hr : Rd w4 A n l) => show Rd wr A n l from hw ▸ hr.drewN m2)
            have hcD := hid (fun (a : Addr) => show wr.cell? a = w4.cell? a from by rw [← hw]; rfl)
            clear hw
            by_cases hj1 : j < n
            · have hj1' : (j : Int) < (n : Int) := by omega
              obtain ⟨hc1, hr1⟩ := H1.out i hlt
              obtain ⟨hc2, hr2⟩ := H2.out i hlt
              obtain ⟨b3, o3, hA3, hb3, hc3⟩ := rd_brow (hD.out _ _ hr1) j hj1
              obtain ⟨b4, o4, hA4, hb4, hc4⟩ := rd_brow (hD.out _ _ hr2) j hj1
              have mk := fun M => maskBit m j i (wr.drewN M) hm8 (by omega) (by omega)
              rw [← hcD.out] at hc1 hc2
              unfold offR at hc4
              generalize R1 i = Ra at *
              generalize R2 i = Rb at *
              subst hA3 hA4
              generalize C1 i = ca at *
              generalize C2 i = cb at *
              generalize R i j = y at *
              generalize mBit m j i = b at *
              clear hr1 hr2 hb3 hb4
              cases b <;> cases y
              all_goals (
                simp only [if_true, Bool.false_eq_true, if_false, Bool.not_true, Bool.not_false] at hc4
                go_wp2_with fail
                go_quiet ((go_at_call 21; exact (mk _).mono fun _ _ hh => ⟨hh.1, _, hh.2.symm⟩))
                go_wp2_with fail
                go_roundw
                case rel => exact ⟨j + 1, _, by omega, by go_num, by rw [← HW.out]; exact (World.drewN_drewN _ _ _).symm⟩
                case measure => simp [intOf]; omega)
            · obtain rfl : j = n := by omega
              have hj1' : ¬ (j : Int) < (j : Int) := by omega
              go_wp2_with fail
              go_roundw
              case rel => exact ⟨i + 1, m2, by omega, by go_num, HW.out⟩
              case measure => simp [intOf]; omega
        · obtain rfl : i = n := by omega
          have hlt' : ¬ (i : Int) < (i : Int) := by omega
          have hbd := below_drewN (Below.refl w4.heap.size w4) mm
          have u2 := unmaskRows (some ⟨G2, 0, none⟩) i i m (offR R m) (w4.drewN mm) (HX2.out.below hbd) hn1 hn60 hm8
          rw [off_off] at u2
          have HS5 := hid (HS4.out.below hbd)
          have HB5 := hid (HB4.out.trans (hbd.mono HB4.out.size))
          clear hbd
          generalize w4.drewN mm = w5 at *
          go_wp2_with fail
          refine u2.mono ?_
          rintro e w6 ⟨G3, rfl, hG3, hX3, hb6⟩
          have sr := sameRows (some ⟨G3, 0, none⟩) (some ⟨G, 0, none⟩) i i i R w6 hX3 (HS5.out.below hb6) hn1 hn60
          have HB6 := hid (HB5.out.trans (hb6.mono HB5.out.size))
          clear u2 hX3 hb6
          go_wp2_with fail
          refine sr.mono ?_
          rintro e w7 ⟨rfl, m7, rfl⟩
          clear sr
          go_wp2_with fail
          go_ret
          exact ⟨rfl, below_drewN HB6.out _⟩
end Go.Proofs.Ytjgckbccbambmaa
