/- QR codes: FnRQJoins: impl.lists, rqFlat. -/
import Derived.Test.YtpffffhgmhpkiaaJnB
import Derived.Test.YtpffffhgmhpkiaaSpQ
namespace Go.Proofs.Ytpffffhgmhpkiaa
open Go.RowKit
set_option linter.unusedVariables false
set_option linter.unusedSimpArgs false

theorem FB.on {S : Nat → Prop} {w : World} {R : Option Addr} {n c : Nat} {s : List Nat} (hn : n = s.length) (h : Rd w R n (u8s s)) (hc : n ≤ c) (hs : 0 < n → ∀ a, R = some a → S a.block) : On S w (fun W => FB W [.slice R n c] s) := fun w' a b => by
  subst hn
  exact ⟨R, c, rfl, hc, (On.rd h hs) w' a b⟩
theorem Own.blk {w : World} {B : Nat} {e : TypeId} {A : Option Addr} {n c : Nat} {xs : List Value} (h : Own w B e (.slice A n c) xs) : ∀ a, A = some a → B ≤ a.block ∧ a.block < w.heap.size := fun a ha => h.lt a.block (by rw [ha]; rfl)
theorem take_succD {α : Type} (L : List α) (i : Nat) (d : α) (h : i < L.length) : L.take (i + 1) = L.take i ++ [L.getD i d] := by
  rw [List.take_succ_eq_append_getElem h, List.getD, List.getElem?_eq_getElem h]; rfl
/-- The lists as new ones. -/
def ListsOut (L : List (List Nat)) (n : Nat) (w : World) (e : Ending) (w' : World) : Prop :=
  ∃ A c, e = .returned (.slice A n c) ∧ n ≤ c ∧ On (Fro w.heap.size) w' (fun W => RdL FB 1 W A n L) ∧ Below w.heap.size w w'
set_option maxRecDepth 20000 in
set_option maxHeartbeats 8000000 in
theorem listsQ (L : List (List Nat)) (A : Option Addr) (n c : Nat) (w : World) (hR : On Al w (fun W => RdL FB 1 W A n L)) (hn : n ≤ 17179869184) (hl : ∀ x ∈ L, x.length ≤ 17179869184) : Calls Try.prog 28 #[.slice A n c] w (ListsOut L n w) := by
  obtain ⟨i5, gi, gz0, gz1, gz2⟩ := info_of info5
  obtain ⟨i22, yi, yz0, yz1, yz2⟩ := info_of info22
  have HN := hid hR.here.1
  have HR := hid hR
  have HLE := hid hl
  clear hR hl
  go_enter Try.func28, Try.ntmps28
  go_wp2_with fail
  go_loopw [3, 8] (fun ov iv wr => ∃ (i : Nat), i ≤ n ∧ iv = .int .i64 (i : Nat) ∧ Hid (OwnL FB 1 (Fro w.heap.size) wr w.heap.size 22 ov (L.take i)) ∧ Hid (Below w.heap.size w wr)) (fun _ iv _ => n - (intOf iv).toNat)
  case atStart => exact ⟨0, by omega, rfl, hid (OwnL.nil _ _ _), hid (Below.refl _ _)⟩
  case round =>
    obtain ⟨i, hi, rfl, HO, HB⟩ := hrel
    have hbs := HB.out.size
    obtain ⟨A7, c7, hv7, hc7⟩ := HO.out.form
    obtain ⟨tl, htl⟩ : ∃ tl, tl = (L.take i).length := ⟨_, rfl⟩
    rw [← htl] at hv7 hc7
    have hti : tl = i := by rw [htl, List.length_take]; have := HN.out; omega
    subst hti
    subst hv7
    have HTL := hid htl
    clear htl
    by_cases hlt : tl < n
    · have hlt' : (tl : Int) < (n : Int) := by omega
      obtain ⟨b, o, R, cR, hA, hb, c0, a0, a3⟩ := (HR.out.below HB.out).here.bytes tl hlt
      subst hA
      have hiL : tl < L.length := by rw [HN.out]; exact hlt
      have hle := HLE.out (L.getD tl []) (by rw [List.getD, List.getElem?_eq_getElem hiL]; exact List.getElem_mem hiL)
      have HTK := hid (take_succD L tl [] hiL)
      obtain ⟨s, hs⟩ : ∃ s, s = L.getD tl [] := ⟨_, rfl⟩
      rw [← hs] at a0 c0 a3 hle HTK
      obtain ⟨k, hk⟩ : ∃ k, k = s.length := ⟨_, rfl⟩
      rw [← hk] at a0 c0 a3 hle
      have HK := hid hk
      have HA3 := hid a3
      clear hs hk hiL a3
      go_wp2_with ((at_builtin; refine wpList_app _ rfl _ _ 22 rfl wr.heap.size 5 i5 _ 1 Try.underlying22 gi gz0 gz1 gz2 rfl _ [] rfl (Own.nil wr wr.heap.size 5) R k cR (u8s s) rfl HA3.out (u8s_one _) (by simp only [maxLen, List.length_nil]; omega) (by simp only [List.length_nil]; omega) (Nat.le_refl _) ?_))
      intro v5 w5 hO5 hg5 ho5
      have hb5 : Below wr.heap.size wr w5 := (Below.refl _ wr).grown hg5 (Nat.le_refl _) (fun k hk => by cases hk)
      obtain ⟨A5, c5, hv5, hR5, hc5⟩ := hO5.form
      rw [u8s_len, ← HK.out] at hv5 hR5 hc5
      subst hv5
      have HX := hid (And.intro hR5 hc5)
      have HBK := hid hO5.blk
      have HB5 := hid (HB.out.trans (hb5.mono hbs))
      have HO5 := hid (HO.out.below hb5 (Nat.le_refl _))
      have hbs5 := HB5.out.size
      clear hO5 hg5 ho5 hR5 hc5
      go_wp2_with ((at_builtin; refine wpList_appL (F := FB) (S := Fro w.heap.size) _ rfl _ _ 23 rfl w.heap.size 22 i22 _ 1 24 Try.underlying23 yi yz0 yz1 yz2 rfl (by omega) _ (L.take tl) rfl (HO5.out.alloc _) ⟨w5.heap.size, 0, none⟩ 1 [.slice A5 k c5] s rfl rfl (cell_new w5 #[.slice A5 k c5] 22 _ rfl) (by simp [Value.oneCell']) ?_ ?_ ?_ (by simp; omega) ?_))
      · refine On.alloc (FB.on HK.out HX.out.1 HX.out.2 (fun h0 a ha => ?_)) _
        have h1 := (HBK.out a ha).1
        refine ⟨Nat.le_trans hbs h1, fun h2 => ?_⟩
        have h3 := (HO.out.lt a.block h2).2
        omega
      · rw [← HTL.out]; simp only [maxLen]; omega
      · rw [← HTL.out]; omega
      · intro v7 w7 hO7 hg7
        have HO7 := hid (show OwnL FB 1 (Fro w.heap.size) w7 w.heap.size 22 v7 (L.take (tl + 1)) from by rw [HTK.out]; exact hO7)
        have HB7 := hid (below_appL (HB5.out.alloc hbs5 (.cells #[.slice A5 k c5] 22)) (HO5.out.alloc _) hg7 (Nat.le_refl _) (by simp; omega))
        clear hO7 hg7
        go_wp2_with fail
        go_roundw
        case rel => first | exact ⟨tl + 1, by omega, by go_num, HO7, HB7⟩ | ((repeat apply Exists.intro); exact ⟨⟨tl + 1, by omega, rfl, HO7, HB7⟩, rfl⟩)
        case measure => first | (simp [intOf]; done) | (simp [intOf]; omega)
    · obtain rfl : tl = n := by omega
      have hlt' : ¬ (tl : Int) < (tl : Int) := by omega
      have HO2 := hid (show OwnL FB 1 (Fro w.heap.size) wr w.heap.size 22 (.slice A7 tl c7) L from by have := HO.out; rwa [List.take_of_length_le (by rw [HN.out]; omega)] at this)
      go_wp2_with fail
      go_ret
      exact ⟨A7, c7, rfl, hc7, HO2.out.rdl HN.out.symm (fun _ h => h) (fun _ h => h), HB.out⟩
/-- All bytes of the lists. -/
def FlatOut (L : List (List Nat)) (w : World) (e : Ending) (w' : World) : Prop :=
  ∃ A c, e = .returned (.slice A L.flatten.length c) ∧ Rd w' A L.flatten.length (u8s L.flatten) ∧ Below w.heap.size w w'
theorem flat_take (L : List (List Nat)) (i : Nat) (h : i < L.length) : (L.take (i + 1)).flatten = (L.take i).flatten ++ L.getD i [] := by
  rw [take_succD L i [] h, List.flatten_append]; simp
theorem flat_le (L : List (List Nat)) (i : Nat) : (L.take i).flatten.length ≤ L.flatten.length := by
  conv => rhs; rw [← List.take_append_drop i L, List.flatten_append, List.length_append]
  omega
set_option maxRecDepth 20000 in
set_option maxHeartbeats 8000000 in
theorem flatQ (L : List (List Nat)) (A : Option Addr) (n c : Nat) (w : World) (hR : On Al w (fun W => RdL FB 1 W A n L)) (hn : n ≤ 17179869184) (hl : L.flatten.length ≤ 17179869184) : Calls Try.prog 33 #[.slice A n c] w (FlatOut L w) := by
  obtain ⟨i5, gi, gz0, gz1, gz2⟩ := info_of info5
  have HN := hid hR.here.1
  have HR := hid hR
  have HLE := hid hl
  clear hR hl
  go_enter Try.func33, Try.ntmps33
  go_wp2_with fail
  go_loopw [3, 8] (fun ov iv wr => ∃ (i : Nat), i ≤ n ∧ iv = .int .i64 (i : Nat) ∧ Hid (Own wr w.heap.size 5 ov (u8s (L.take i).flatten)) ∧ Hid (Below w.heap.size w wr)) (fun _ iv _ => n - (intOf iv).toNat)
  case atStart => exact ⟨0, by omega, rfl, hid (by simpa [u8s] using Own.nil w w.heap.size 5), hid (Below.refl _ _)⟩
  case round =>
    obtain ⟨i, hi, rfl, HO, HB⟩ := hrel
    have hbs := HB.out.size
    by_cases hlt : i < n
    · have hlt' : (i : Int) < (n : Int) := by omega
      obtain ⟨b, o, R, cR, hA, hb, c0, a0, a3⟩ := (HR.out.below HB.out).here.bytes i hlt
      subst hA
      have hiL : i < L.length := by rw [HN.out]; exact hlt
      have HTK := hid (flat_take L i hiL)
      have HLT := hid (show (L.take i).flatten.length + (L.getD i []).length ≤ 17179869184 from by
        have h1 := flat_le L (i + 1)
        rw [flat_take L i hiL, List.length_append] at h1
        have := HLE.out; omega)
      obtain ⟨s, hs⟩ : ∃ s, s = L.getD i [] := ⟨_, rfl⟩
      rw [← hs] at a0 c0 a3 HTK HLT
      obtain ⟨k, hk⟩ : ∃ k, k = s.length := ⟨_, rfl⟩
      rw [← hk] at a0 c0 a3 HLT
      have HA3 := hid a3
      clear hs hk hiL a3
      go_wp2_with ((at_builtin; refine wpList_app _ rfl _ _ 22 rfl w.heap.size 5 i5 _ 1 Try.underlying22 gi gz0 gz1 gz2 rfl _ (u8s (L.take i).flatten) rfl HO.out R k cR (u8s s) rfl HA3.out (u8s_one _) (by rw [u8s_len]; have := HLT.out; simp only [maxLen]; omega) (by rw [u8s_len]; have := HLT.out; omega) hbs ?_))
      intro v5 w5 hO5 hg5 ho5
      have HO5 := hid (show Own w5 w.heap.size 5 v5 (u8s (L.take (i + 1)).flatten) from by rw [HTK.out, u8s_append]; exact hO5)
      have HB5 := hid (below_app HB.out HO.out hg5 (Nat.le_refl _) hbs)
      clear hO5 hg5 ho5
      go_wp2_with fail
      go_roundw
      case rel => first | exact ⟨i + 1, by omega, by go_num, HO5, HB5⟩ | ((repeat apply Exists.intro); exact ⟨⟨i + 1, by omega, rfl, HO5, HB5⟩, rfl⟩)
      case measure => first | (simp [intOf]; done) | (simp [intOf]; omega)
    · obtain rfl : i = n := by omega
      have hlt' : ¬ (i : Int) < (i : Int) := by omega
      have hO2 := HO.out
      rw [List.take_of_length_le (by rw [HN.out]; omega)] at hO2
      obtain ⟨A5, c5, hv5, hR5, hc5⟩ := hO2.form
      clear hO2
      rw [u8s_len] at hv5 hR5
      obtain ⟨fl, hfl⟩ : ∃ fl, fl = L.flatten.length := ⟨_, rfl⟩
      rw [← hfl] at hv5 hR5
      have HR5 := hid hR5
      have HFL := hid hfl
      subst hv5
      clear hR5 hc5 hfl
      go_wp2_with fail
      go_ret
      exact ⟨A5, c5, by rw [← HFL.out]; rfl, by rw [← HFL.out]; exact HR5.out, HB.out⟩
end Go.Proofs.Ytpffffhgmhpkiaa
