/- The reference's code of data: it is zero at each root. -/
import Derived.Test.YtpkmknbmjlnkgaaCodeW
namespace Go.Proofs.Ytpkmknbmjlnkgaa
open Go.RowKit
set_option linter.unusedVariables false

/-- A code: n elements, worth nothing at each of ec roots. -/
def CodeL (p m base ec n : Nat) (c : List Nat) : Prop := AllIn m c ∧ c.length = n ∧ ∀ j, j < ec → valAt p m (ex p m (base + j)) c = 0
def codeOf (data lo : List Nat) (ec : Nat) : List Nat := data ++ List.replicate (ec - lo.length) 0 ++ lo

theorem code_ok {p m base ec : Nat} (h : IsGF p m) {data gen lo : List Nat} (hd : AllIn m data) (hg : GenL p m base ec gen) (hlo : RestOk p m 1000 (tidy (shiftl data ec)) gen lo) (hle : lo.length ≤ ec) : CodeL p m base ec (data.length + ec) (codeOf data lo ec) := by
  have hA := hlo.1.2.1
  refine ⟨allIn_app (allIn_app hd (reps_in _)) hA, by simp [codeOf]; omega, fun j hj => ?_⟩
  have hx := ex_lt h (p := p) (m := m) (base + j)
  have h1 := hlo.2 _ hx (hg.2.2.2.2 j hj)
  rw [val_tidy h hx _ (shiftl_in hd ec), val_shiftl h hx hd] at h1
  have hz : AllIn m (List.replicate (ec - lo.length) 0 ++ lo) := allIn_app (reps_in _) hA
  rw [codeOf, List.append_assoc, val_app h hx hd ec _ (by simp; omega) hz, val_app h hx (reps_in _) _ _ rfl hA, val_reps h hx, zero_gm, Nat.zero_xor, h1, Nat.xor_self]

/-- A code is handed back. -/
def CodeOut (p m base ec n : Nat) (w : World) (e : Ending) (w' : World) : Prop := ∃ c, CodeL p m base ec n c ∧ ListOut c w e w'

attribute [local go_sem ↓] Go.wp_at_zero Go.wp_at_succ
set_option maxRecDepth 20000 in
set_option maxHeartbeats 4000000 in
theorem rsEncode (p m N base ec n : Nat) (A1 : Option Addr) (c1 : Nat) (data : List Nat) (w : World) (h : IsGF p m) (hN : Hid (N = 2 ^ m)) (hb : base ≤ 1) (hR1 : Rd w A1 n (ints data)) (hd1 : 1 ≤ n) (hd2 : n ≤ 300) (hA : AllIn m data) (he1 : 1 ≤ ec) (he2 : ec ≤ 100) :
    Calls Try.prog 26 #[fieldVal p N base, .slice A1 n c1, .int .i64 ec] w (CodeOut p m base ec (n + ec) w) := by
  obtain ⟨i0, hi, hz0, hz1, hz2⟩ := info_parts info3
  have hdl : data.length = n := by have := hR1.1; simpa [ints] using this
  have HDL := hid hdl
  have sh := fun W hr => rsShifted A1 n c1 ec data W hr hd1 (by omega) (by omega)
  have HGS := hid (show Good m 1000 (tidy (shiftl data ec)) from good_tidy h (shiftl_in hA ec) (by rw [shiftl_len]; omega) (by rw [shiftl_len]; omega))
  have HCK := hid (fun gen lo hg hlo hle => code_ok (base := base) (ec := ec) h (data := data) (gen := gen) (lo := lo) hA hg hlo hle)
  generalize tidy (shiftl data ec) = sd at *
  have gn := fun W => rsGenerator p m N base ec W h hN hb he2
  have rr : ∀ (W : World) (As Ag : Option Addr) (cs cg : Nat) (gen : List Nat), GenL p m base ec gen → Rd W As sd.length (ints sd) → Rd W Ag gen.length (ints gen) → sd.length ≤ cs → gen.length ≤ cg → Calls Try.prog 43 #[fieldVal p N base, .slice As sd.length cs, .slice Ag gen.length cg] W (RestOut p m 1000 sd gen W) := fun W As Ag cs cg gen hg h1 h2 h3 h4 =>
    rsRest p m N base As Ag cs cg sd gen W h hN h1 h2 HGS.out ⟨hg.1, hg.2.1, by have := hg.2.2.1; omega, by have := hg.2.2.1; omega⟩ (by rw [hg.2.2.2.1]; decide) h3 h4
  have SH := hid sh
  have GN := hid gn
  have RR := hid rr
  have A0 := Arr.of_new w 23 #[.int .i64 p, .int .i64 N, .int .i64 base]
  have B0 : Below w.heap.size w (w.alloc (.cells #[.int .i64 p, .int .i64 N, .int .i64 base] 23)) := (Below.refl _ _).alloc (Nat.le_refl _) _
  have HR1 := hid (hR1.below B0)
  have d0 := A0.cell? 0
  have d1 := A0.cell? 1
  have d2 := A0.cell? 2
  have hFl := A0.lt
  try simp only at d0 d1 d2
  clear sh gn rr hR1 hA hdl h A0
  unfold fieldVal at *
  go_enter Try.func26, Try.ntmps26
  go_wp2_with fail
  generalize w.alloc (.cells #[.int .i64 p, .int .i64 N, .int .i64 base] 23) = w1 at *
  have b0 := Below.refl w1.heap.size w1
  go_region_held3 (fun w' => w'.cell? ⟨w.heap.size, 0, none⟩ = some (.int .i64 p) ∧ w'.cell? ⟨w.heap.size, 1, none⟩ = some (.int .i64 N) ∧ w'.cell? ⟨w.heap.size, 2, none⟩ = some (.int .i64 base) ∧ w.heap.size < w'.heap.size ∧ Below w1.heap.size w1 w')
    (first | exact ⟨d0, d1, d2, hFl, b0.drew⟩ | exact keepF (by assumption) hb7 | exact keepF (by assumption) hb6 | exact keepF (by assumption) hb5)
    (first
      | (go_at_call 23; ((with_reducible refine (SH.out _ ?_).mono ?_); (exact HR1.out.drew); rintro e w5 ⟨As, cs, rfl, hcs, hRs, hAs, hb5⟩))
      | (go_at_call 44; ((with_reducible refine (GN.out _).mono ?_); rintro e w6 ⟨gen, hgen, Ag, cg, rfl, hcg, hRg, hAg, hb6⟩))
      | (go_at_call 43; ((with_reducible refine (RR.out _ _ _ _ _ _ hgen (hRs.below hb6) hRg hcs hcg).mono ?_); rintro e w7 ⟨lo, hlo, hll, Al, cl, rfl, hcl, hRl, hAl, hb7⟩)))
  have S7 : w7.cell? ⟨w.heap.size, 0, none⟩ = some (.int .i64 p) ∧ w7.cell? ⟨w.heap.size, 1, none⟩ = some (.int .i64 N) ∧ w7.cell? ⟨w.heap.size, 2, none⟩ = some (.int .i64 base) ∧ w.heap.size < w7.heap.size ∧ Below w1.heap.size w1 w7 := by assumption
  have hb17 := S7.2.2.2.2
  have HR7 := hid (HR1.out.below hb17)
  have HRL := hid hRl
  have HB7 := hid (B0.trans (hb17.mono B0.size))
  have hle : lo.length ≤ ec := by
    rcases hll with h1 | h1
    · have := hgen.2.2.1; omega
    · rw [h1]; simpa using he1
  have HCODE := hid (HCK.out gen lo hgen hlo hle)
  have hl1 := hlo.1.2.2.1
  clear S7 hb17 d0 d1 d2 hFl b0 B0 hRs hRg hAs hAg hb5 hb6 hb7 hRl hAl hgen hlo hll hcs hcg SH GN RR HCK HGS HR1
  go_wp2_with (at_builtin; refine wpList_app _ rfl (.tmp 18) (.tmp 19) 30 rfl w7.heap.size 3 i0 _ 8 Try.underlying30 hi hz0 hz1 hz2 rfl (.slice (some ⟨w7.heap.size, 0, none⟩) 0 0) [] rfl (Own.lit0 _ _ (Nat.le_refl _)) A1 n c1 (ints data) rfl (HR7.out.alloc _) (ints_one _) (by simp [maxLen]; omega) (by simp; omega) (by simp) ?_)
  intro v1 w8 hO hg _
  have HO8 := hid (show Own w8 w7.heap.size 3 v1 (ints data) from hO)
  have HB8 := hid (show Below w7.heap.size w7 w8 from ((Below.refl _ w7).alloc (Nat.le_refl _) (.cells #[] 3)).grown hg (by simp) (fun j hj => by simp [Value.ownBlock] at hj; omega))
  clear hO hg
  go_wp2_with fail
  go_loopw [8, 9] (fun ov' iv wr => ∃ (k : Nat) (ov : Value), lo.length ≤ k ∧ k ≤ ec ∧ iv = .int .i64 k ∧ ov = ov' ∧ Own wr w7.heap.size 3 ov (ints (data ++ List.replicate (k - lo.length) 0)) ∧ Below w7.heap.size w7 wr) (fun _ iv _ => ec - (intOf iv).toNat)
  case atStart => exact ⟨lo.length, _, Nat.le_refl _, hle, rfl, rfl, by rw [Nat.sub_self]; simpa using HO8.out, HB8.out⟩
  case round =>
    clear HO8 HB8
    obtain ⟨k, ov, hk1, hk, rfl, rfl, hO, hB⟩ := hrel
    have hlen : (ints (data ++ List.replicate (k - lo.length) 0)).length = n + (k - lo.length) := by rw [ints_length, List.length_append, List.length_replicate, HDL.out]
    have HO := hid hO
    have HB := hid hB
    have m1 := hid (show (ints (data ++ List.replicate (k - lo.length) 0)).length + 1 ≤ maxLen by rw [hlen]; unfold maxLen; omega)
    have m2 := hid (show ((ints (data ++ List.replicate (k - lo.length) 0)).length + 1) * 8 ≤ 140737488355328 by rw [hlen]; omega)
    have m3 := hid (show (ints (data ++ List.replicate (k - lo.length) 0)).length + lo.length ≤ maxLen by rw [hlen]; unfold maxLen; omega)
    have m4 := hid (show ((ints (data ++ List.replicate (k - lo.length) 0)).length + lo.length) * 8 ≤ 140737488355328 by rw [hlen]; omega)
    have hS := hid (show w7.heap.size ≤ (wr.alloc (.cells #[.int .i64 0] 3)).heap.size from Nat.le_trans hB.size (by simp))
    clear hO hB hlen
    by_cases hlt : k < ec
    · have hlt' : (k : Int) < (ec : Int) := by omega
      go_wp2_with (at_builtin; refine wpList_app _ rfl (.tmp 28) (.tmp 29) 30 rfl w7.heap.size 3 i0 _ 8 Try.underlying30 hi hz0 hz1 hz2 rfl ov (ints (data ++ List.replicate (k - lo.length) 0)) rfl (HO.out.alloc _) (some ⟨wr.heap.size, 0, none⟩) 1 1 [.int .i64 0] rfl (Rd.one _ _ _) (by intro u hu; rw [List.mem_singleton.1 hu]; rfl) m1.out m2.out hS.out ?_)
      intro v2 w9 hO9 hg9 _
      have e9 : ints (data ++ List.replicate (k - lo.length) 0) ++ [Value.int .i64 0] = ints (data ++ List.replicate (k + 1 - lo.length) 0) := by
        rw [show k + 1 - lo.length = (k - lo.length) + 1 from by omega, List.replicate_succ']
        simp [ints]
      rw [e9] at hO9
      have HO9 := hid hO9
      have HB9 := hid (show Below w7.heap.size w7 w9 from (HB.out.alloc HB.out.size (.cells #[.int .i64 0] 3)).grown hg9 (Nat.le_trans HB.out.size (by simp)) (fun r hr => (HO.out.lt r hr).1))
      clear hO9 hg9 e9
      go_wp2_with fail
      go_roundw
      case rel => exact ⟨k + 1, _, by omega, by omega, by go_num, rfl, HO9.out, HB9.out⟩
      case measure => simp [intOf]; omega
    · obtain rfl : k = ec := by omega
      have hlt' : ¬ (k : Int) < (k : Int) := by omega
      have hmx : ¬ (0 : Int) < (lo.length : Int) - (k : Int) := by omega
      have HRL2 := hid (HRL.out.below HB.out)
      go_wp2_with (at_builtin; refine wpList_app _ rfl (.tmp 31) (.tmp 38) 30 rfl w7.heap.size 3 i0 _ 8 Try.underlying30 hi hz0 hz1 hz2 rfl ov (ints (data ++ List.replicate (k - lo.length) 0)) rfl HO.out Al lo.length cl (ints lo) rfl HRL2.out (ints_one _) m3.out m4.out HB.out.size ?_)
      intro v2 w9 hO9 hg9 _
      have e9 : ints (data ++ List.replicate (k - lo.length) 0) ++ ints lo = ints (codeOf data lo k) := by simp [ints, codeOf]
      rw [e9] at hO9
      have HO9 := hid hO9
      have HB9 := hid (show Below w7.heap.size w7 w9 from HB.out.grown hg9 HB.out.size (fun r hr => (HO.out.lt r hr).1))
      have HBW := hid (show Below w.heap.size w w9 from HB7.out.trans (HB9.out.mono HB7.out.size))
      have HC2 := hid (show CodeL p m base k (n + k) (codeOf data lo k) by have := HCODE.out; rwa [HDL.out] at this)
      clear hO9 hg9 e9
      go_wp2_with fail
      go_ret
      exact ⟨codeOf data lo k, HC2.out, listOut_of_own HO9.out HBW.out HB7.out.size⟩
end Go.Proofs.Ytpkmknbmjlnkgaa
