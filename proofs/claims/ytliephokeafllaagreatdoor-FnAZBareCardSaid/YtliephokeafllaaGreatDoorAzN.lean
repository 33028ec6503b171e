/- spec.AZField, AZSymbol, laws.azSymbol; spec.BISameBits. -/
import Derived.Test.YtliephokeafllaaGreatDoorAzE
import Derived.Test.YtliephokeafllaaGreatDoorAzI
import Derived.Test.YtliephokeafllaaGreatDoorRsE
namespace Go.Proofs.YtliephokeafllaaGreatDoor
open Go.RowKit
set_option linter.unusedVariables false
set_option linter.unusedSimpArgs false

/-- The field of words of so many bits. -/
def azP (wd : Nat) : Nat := if wd = 6 then 0x43 else if wd = 8 then 0x12D else if wd = 10 then 0x409 else 0x1069
theorem azGF (L : Nat) : Rs.IsGF (azP (azW L)) (azW L) := by
  rcases azW_cases L with h | h | h | h <;> rw [h]
  · exact Rs.gf64
  · exact Rs.gf256a
  · exact Rs.gf1024
  · exact Rs.gf4096
/-- A field, and memory that is there still. -/
def FldOut (wd : Nat) (w : World) (e : Ending) (w' : World) : Prop := e = .returned (Rs.fieldVal (azP wd) (2 ^ wd) 1) ∧ Below w.heap.size w w'
set_option maxHeartbeats 1000000 in
theorem fieldM (wd : Nat) (h : wd = 6 ∨ wd = 8 ∨ wd = 10 ∨ wd = 12) (w : World) : Calls Tryz.prog 27 #[.int .i64 (wd : Nat)] w (FldOut wd w) := by
  rcases h with rfl | rfl | rfl | rfl
  all_goals
    go_enter Tryz.func27, Tryz.ntmps27
    go_wp2_with fail
    refine bodyPost_ret (v := Rs.fieldVal (azP _) (2 ^ _) 1) (by simp [results, Tryz.results30, go_sem, Rs.fieldVal, azP]) rfl ⟨rfl, ?_⟩
    first
    | exact ((Below.refl _ _).alloc (Nat.le_refl _) _)
    | exact (((Below.refl _ _).alloc (Nat.le_refl _) _).setCell (by simp) _)

/-- All words of a symbol, if they fit. -/
def SymOut (c : Bool) (L : Nat) (data : List Nat) (w : World) (e : Ending) (w' : World) : Prop :=
  (∃ ws A cp, e = .returned (.tuple #[.slice A (azBitsN c L / azW L) cp, .bool true]) ∧ azBitsN c L / azW L ≤ cp ∧ Rs.CodeL (azP (azW L)) (azW L) 1 (azBitsN c L / azW L - data.length) (azBitsN c L / azW L) ws ∧ (∃ t, ws = data ++ t) ∧ Rd w' A (azBitsN c L / azW L) (ints ws) ∧ Below w.heap.size w w')
def SymN (p wd al : Nat) (data : List Nat) (w : World) (e : Ending) (w' : World) : Prop :=
  (∃ ws A cp, e = .returned (.tuple #[.slice A al cp, .bool true]) ∧ al ≤ cp ∧ Rs.CodeL p wd 1 (al - data.length) al ws ∧ (∃ t, ws = data ++ t) ∧ Rd w' A al (ints ws) ∧ Below w.heap.size w w')
def SymNo (w : World) (e : Ending) (w' : World) : Prop := e = .returned (.tuple #[.slice none 0 0, .bool false]) ∧ w = w'
theorem symNoM (c : Bool) (L : Nat) (hL0 : 1 ≤ L) (hL : L ≤ 32) (data : List Nat) (A : Option Addr) (cp : Nat) (w : World) (hlen : data.length ≤ 1000000) (hno : data.length = 0 ∨ azBitsN c L / azW L < data.length + 2) :
    Calls Tryz.prog 12 #[.slice A data.length cp, .bool c, .int .i64 (L : Nat)] w (SymNo w) := by
  have hWD := hid (azWidthM L w)
  have hBT := hid (azBitsM c L hL w)
  have hbl := azBitsN_le c hL
  have hw := azW_cases L
  obtain ⟨WD, hWDe⟩ : ∃ WD, WD = azW L := ⟨_, rfl⟩
  rw [← hWDe] at hWD hw hno
  have hw6 : 6 ≤ WD := by omega
  have hz : ¬ (WD : Int) = 0 := by omega
  obtain ⟨BT, hBTe⟩ : ∃ BT, BT = azBitsN c L := ⟨_, rfl⟩
  rw [← hBTe] at hBT hbl hno
  obtain ⟨N, hN⟩ : ∃ N, N = data.length := ⟨_, rfl⟩
  rw [← hN] at hno hlen ⊢
  obtain ⟨al, hal⟩ : ∃ al, al = BT / WD := ⟨_, rfl⟩
  have e1 : (BT : Int) / (WD : Int) = (al : Nat) := by rw [hal]; exact (Int.natCast_ediv _ _).symm
  rw [← hal] at hno
  have hal2 : al ≤ 20000 := by rw [hal]; exact Nat.le_trans (Nat.div_le_self _ _) hbl
  clear hWDe hBTe hN hal hw
  by_cases h0 : N = 0
  · have h0' : (N : Int) = 0 := by omega
    go_enter Tryz.func12, Tryz.ntmps12
    go_wp2_with (first | (go_at_call 7; ((with_reducible refine hWD.out.mono ?_); rintro e w' ⟨rfl, rfl⟩)) | (go_at_call 15; ((with_reducible refine hBT.out.mono ?_); rintro e w' ⟨rfl, rfl⟩)))
    go_ret2
    exact ⟨rfl, rfl⟩
  · have h0' : ¬ (N : Int) = 0 := by omega
    have h1' : (al : Int) < (N : Int) + 2 := by omega
    go_enter Tryz.func12, Tryz.ntmps12
    go_wp2_with (first | (go_at_call 7; ((with_reducible refine hWD.out.mono ?_); rintro e w' ⟨rfl, rfl⟩)) | (go_at_call 15; ((with_reducible refine hBT.out.mono ?_); rintro e w' ⟨rfl, rfl⟩)))
    go_ret2
    exact ⟨rfl, rfl⟩
set_option maxHeartbeats 1000000 in
theorem symYesM (c : Bool) (L : Nat) (hL0 : 1 ≤ L) (hL : L ≤ 32) (data : List Nat) (A : Option Addr) (cp : Nat) (w : World) (hR : Rd w A data.length (ints data)) (hin : Rs.AllIn (azW L) data) (h1 : 1 ≤ data.length) (h2 : data.length + 2 ≤ azBitsN c L / azW L) :
    Calls Tryz.prog 12 #[.slice A data.length cp, .bool c, .int .i64 (L : Nat)] w (SymOut c L data w) := by
  have hWD := hid (azWidthM L w)
  have hBT := hid (azBitsM c L hL w)
  have hbl := azBitsN_le c hL
  have hw := azW_cases L
  have HG := hid (azGF L)
  have hal3 : azBitsN c L / azW L ≤ 1700 := by
    have hc : (List.range 33).all (fun L => decide (azBitsN true L / azW L ≤ 1700) && decide (azBitsN false L / azW L ≤ 1700)) = true := by decide +kernel
    have := List.all_eq_true.1 hc L (List.mem_range.2 (by omega))
    simp only [Bool.and_eq_true, decide_eq_true_eq] at this
    cases c
    · exact this.2
    · exact this.1
  change Calls _ _ _ _ (SymN (azP (azW L)) (azW L) (azBitsN c L / azW L) data w)
  have HFM := hid (fieldM (azW L) hw w)
  obtain ⟨al, hal⟩ : ∃ al, al = azBitsN c L / azW L := ⟨_, rfl⟩
  rw [← hal] at hal3 h2 ⊢
  obtain ⟨N, hN⟩ : ∃ N, N = data.length := ⟨_, rfl⟩
  rw [← hN] at hR h1 h2
  have HN := hid hN
  have HRS := hid (fun (w1 : World) (hb : Below w.heap.size w w1) => Rs.rsEncode (azP (azW L)) (azW L) (2 ^ azW L) 1 (al - N) N A cp data w1 HG.out (hid rfl) (Nat.le_refl _) (hR.below hb) (by omega) (by omega) hin (by omega) (by omega))
  rw [← hN]
  obtain ⟨WD, hWDe⟩ : ∃ WD, WD = azW L := ⟨_, rfl⟩
  rw [← hWDe] at hWD hw hal HFM HRS ⊢
  have hw6 : 6 ≤ WD := by omega
  have hz : ¬ (WD : Int) = 0 := by omega
  obtain ⟨BT, hBTe⟩ : ∃ BT, BT = azBitsN c L := ⟨_, rfl⟩
  rw [← hBTe] at hBT hbl hal
  have e1 : (BT : Int) / (WD : Int) = (al : Nat) := by rw [hal]; exact (Int.natCast_ediv _ _).symm
  have h0' : ((N : Int) == 0) = false := by simp; omega
  have h1' : decide ((al : Int) < (N : Int) + 2) = false := by simp; omega
  have e2 : (al : Int) - (N : Int) = ((al - N : Nat) : Int) := by omega
  clear hWDe hBTe hN hal hw hR hin
  go_enter Tryz.func12, Tryz.ntmps12
  go_wp2_with (first | (go_at_call 7; ((with_reducible refine hWD.out.mono ?_); rintro e w' ⟨rfl, rfl⟩)) | (go_at_call 15; ((with_reducible refine hBT.out.mono ?_); rintro e w' ⟨rfl, rfl⟩)))
  refine HFM.out.mono ?_
  rintro e w1 ⟨rfl, hb1⟩
  have HB1 := hid hb1
  have HRX := hid (HRS.out w1 hb1)
  clear hb1 HRS HFM
  go_wp2_with fail
  refine HRX.out.mono ?_
  rintro e w2 ⟨ws, hCL, htl, A2, c2, rfl, hc2, hR2, hfr, hB2⟩
  have hwl : ws.length = al := by have := hCL.2.1; omega
  have HCL := hid hCL
  rw [hwl] at hc2 hR2 ⊢
  have HR2 := hid hR2
  have HTL := hid htl
  have HB2 := hid (HB1.out.trans (hB2.mono HB1.out.size))
  clear hR2 htl hB2 hCL hfr HB1 HRX
  go_wp2_with fail
  go_ret2
  refine ⟨ws, A2, c2, rfl, hc2, ?_, HTL.out, HR2.out, HB2.out⟩
  have := HCL.out
  rw [← HN.out]
  rwa [show N + (al - N) = al by omega] at this

theorem results_tmp4 {fn : Func} {a b c d : Tmp} (h : fn.results = #[.tmp a, .tmp b, .tmp c, .tmp d]) (tmps : Array Value) (P : Program) (w : World) :
    (results fn tmps).run P w = .ok (.tuple #[tmps.getD a undef, tmps.getD b undef, tmps.getD c undef, tmps.getD d undef]) w := by
  simp [results, h]
/-- A message's symbol. -/
def SymbolN (s : AzSt) (wd p al : Nat) (w : World) (e : Ending) (w' : World) : Prop :=
  ∃ t, Stuffed s.bits wd t ∧ t ≤ s.bits.length ∧
    ((e = .returned (.tuple #[.slice none 0 0, .int .i64 (t : Nat), .string (strOf s.text), .bool false]) ∧ Below w.heap.size w w') ∨
     (1 ≤ t ∧ t + 2 ≤ al ∧ ∃ ws A cp, e = .returned (.tuple #[.slice A al cp, .int .i64 (t : Nat), .string (strOf s.text), .bool true]) ∧ al ≤ cp ∧ Rs.CodeL p wd 1 (al - t) al ws ∧ (∃ tl, ws = (stuffTo s.bits wd t).1 ++ tl) ∧ Rd w' A al (ints ws) ∧ Below w.heap.size w w'))
set_option maxHeartbeats 2000000 in
theorem symbolM (code : List Nat) (c : Bool) (L : Nat) (hL0 : 1 ≤ L) (hL : L ≤ 32) (A : Option Addr) (cp : Nat) (w : World) (hR : Rd w A code.length (u8s code)) (h8 : ∀ x ∈ code, x < 256) (hcap : code.length ≤ cp) (hlen : cp ≤ maxLen) :
    Calls Tryz.prog 5 #[.slice A code.length cp, .bool c, .int .i64 (L : Nat)] w (SymbolN (azRun ⟨[], [], 0⟩ code (min (code.length / 2) 150)) (azW L) (azP (azW L)) (azBitsN c L / azW L) w) := by
  have HW := hid (writeM w code A cp 150 hR h8 hcap hlen (by decide))
  have hrl := run_len code (min (code.length / 2) 150)
  have hWD := hid (fun W => azWidthM L W)
  have hw := azW_cases L
  have hbl : (azRun ⟨[], [], 0⟩ code (min (code.length / 2) 150)).bits.length ≤ 1000000 := by omega
  generalize azRun ⟨[], [], 0⟩ code (min (code.length / 2) 150) = s at *
  have HST := hid (fun (W : World) (A9 : Option Addr) (c9 : Nat) (hR9 : Rd W A9 s.bits.length (s.bits.map Value.bool)) => stuffM W s.bits A9 c9 (azW L) hR9 hbl (by omega) (by omega))
  have HNO := hid (fun (W : World) (A9 : Option Addr) (c9 t : Nat) (ht : t ≤ 1000000) (hno : t = 0 ∨ azBitsN c L / azW L < t + 2) => by
    have := symNoM c L hL0 hL (stuffTo s.bits (azW L) t).1 A9 c9 W (by rw [stuffTo_len]; exact ht) (by rw [stuffTo_len]; exact hno)
    rwa [stuffTo_len] at this)
  have HYES := hid (fun (W : World) (A9 : Option Addr) (c9 t : Nat) (hR9 : Rd W A9 t (ints (stuffTo s.bits (azW L) t).1)) (h1 : 1 ≤ t) (h2 : t + 2 ≤ azBitsN c L / azW L) => by
    have := symYesM c L hL0 hL (stuffTo s.bits (azW L) t).1 A9 c9 W (by rw [stuffTo_len]; exact hR9) (fun x hx => stuffTo_lt s.bits (by omega) t x hx) (by rw [stuffTo_len]; exact h1) (by rw [stuffTo_len]; exact h2)
    change Calls _ _ _ _ (SymN _ _ _ _ _) at this
    rw [stuffTo_len] at this
    exact this)
  clear hw hrl
  generalize hal : azBitsN c L / azW L = al at *
  clear hal hR h8 hcap hlen
  generalize azP (azW L) = p at *
  generalize azW L = wd at *
  have HBL := hid hbl
  go_enter Tryz.func5, Tryz.ntmps5
  go_wp2_with fail
  refine HW.out.mono ?_
  rintro e w1 ⟨v1, rfl, hO1, hB1⟩
  obtain ⟨A1, c1, rfl, hR1, _⟩ := hO1.form
  rw [List.length_map] at hR1 ⊢
  have HR1 := hid hR1
  have HB1 := hid hB1
  have HSX := hid (HST.out w1 A1 c1 hR1)
  clear hO1 hR1 hB1 HW HST
  go_wp2_with (first | (go_at_call 7; ((with_reducible refine (hWD.out _).mono ?_); rintro e w' ⟨rfl, rfl⟩)))
  refine HSX.out.mono ?_
  rintro e w2 ⟨t, v2, rfl, hS, ht, hO2, hB2⟩
  obtain ⟨A2, c2, rfl, hR2, _⟩ := hO2.form
  rw [ints_len, stuffTo_len] at hR2 ⊢
  have HR2 := hid hR2
  have HS := hid hS
  have HTL := hid ht
  have HB2 := hid (HB1.out.trans (hB2.mono HB1.out.size))
  have ht6 : t ≤ 1000000 := Nat.le_trans ht HBL.out
  clear hS hO2 hR2 hB2 HSX HB1 HR1 ht
  by_cases hno : t = 0 ∨ al < t + 2
  · have HX := hid (HNO.out w2 A2 c2 t ht6 hno)
    clear HNO HYES
    go_wp2_with fail
    refine HX.out.mono ?_
    rintro e w3 ⟨rfl, rfl⟩
    go_wp2_with fail
    (try simp only [Exit.inBlock, Exit.then]); refine bodyPost_ret (results_tmp4 rfl _ _ _) rfl ?_
    exact ⟨t, HS.out, HTL.out, .inl ⟨rfl, HB2.out⟩⟩
  · have HX := hid (HYES.out w2 A2 c2 t HR2.out (by omega) (by omega))
    have h1 : 1 ≤ t := by omega
    have h2 : t + 2 ≤ al := by omega
    clear HNO HYES hno
    go_wp2_with fail
    refine HX.out.mono ?_
    rintro e w3 ⟨ws, A3, c3, rfl, hc3, hCL, htl, hR3, hB3⟩
    rw [stuffTo_len] at hCL
    have HCL := hid hCL
    have HR3 := hid hR3
    have HTW := hid htl
    have HB3 := hid (HB2.out.trans (hB3.mono HB2.out.size))
    clear hCL htl hR3 hB3 HB2 HX
    go_wp2_with fail
    (try simp only [Exit.inBlock, Exit.then]); refine bodyPost_ret (results_tmp4 rfl _ _ _) rfl ?_
    exact ⟨t, HS.out, HTL.out, .inr ⟨h1, h2, ws, A3, c3, rfl, hc3, HCL.out, HTW.out, HR3.out, HB3.out⟩⟩

/-- A value is handed back, and nothing but draws has been. -/
def DrewIt (v : Value) (w : World) (e : Ending) (w' : World) : Prop := e = .returned v ∧ ∃ n, w' = w.drewN n
end Go.Proofs.YtliephokeafllaaGreatDoor
