/- QR codes: FnRQJoins: zzFits10, impl.lists, rqFlat, rqOther. -/
import Derived.Test.YtpffffhgmhpkiaaJnA
namespace Go.Proofs.Ytpffffhgmhpkiaa
open Go.RowKit
set_option linter.unusedVariables false
set_option linter.unusedSimpArgs false

theorem str_nil (w : World) (c : Nat) : (convert 22 9 (.slice none 0 c)).run Try.prog w = .ok (.string (strOf [])) w := by kernel_rfl
theorem str_zero (w : World) (a : Addr) (c : Nat) : (convert 22 9 (.slice (some a) 0 c)).run Try.prog w = .ok (.string (strOf [])) w := by kernel_rfl
/-- A slice of bytes reads as a text. -/
theorem rd_str {w : World} {A : Option Addr} {n c : Nat} {o : List Nat} (h : Rd w A n (u8s o)) : (convert 22 9 (.slice A n c)).run Try.prog w = .ok (.string (strOf o)) w := by
  have hn : o.length = n := by have := h.1; rwa [u8s_len] at this
  by_cases h0 : 0 < n
  · obtain ⟨g, off, rfl, hb, hc⟩ := h.2 h0
    have := run_convert_bytes_arg (P := Try.prog) w 22 5 Try.underlying22 Try.underlying5 g off n c (o.map fun n => ((n : Nat) : Int)) (by simpa using hn) (fun i hi => by
      rw [hc i (by rw [u8s_len]; omega)]
      simp [u8s, List.getD, List.getElem?_eq_getElem (show i < o.length by omega)]) 9 Try.underlying9
    rwa [strOf_nums] at this
  · obtain rfl : n = 0 := by omega
    have e : o = [] := List.eq_nil_of_length_eq_zero hn
    rw [e]
    cases A with
    | none => exact str_nil w c
    | some a => exact str_zero w a c
theorem RdL.imp {α : Type} {F : World → List Value → α → Prop} {sz : Nat} {W : World} {A : Option Addr} {n : Nat} {L : List α} {p : α → Prop} (h : RdL F sz W A n L) : L.length = n := h.1
/-- A slice of slices of bytes, element k. -/
theorem RdL.bytes {W : World} {A : Option Addr} {n : Nat} {L : List (List Nat)} (h : RdL FB 1 W A n L) (k : Nat) (hk : k < n) : ∃ b o R c, A = some ⟨b, o, none⟩ ∧ b < W.heap.size ∧ W.cell? ⟨b, o + k, none⟩ = some (.slice R (L.getD k []).length c) ∧ (L.getD k []).length ≤ c ∧ Rd W R (L.getD k []).length (u8s (L.getD k [])) := by
  obtain ⟨b, o, x, y, e, hb, hx, hl, hc, R, c, rfl, h1, h2⟩ := h.at_ k hk
  have hg : L.getD k [] = x := by rw [List.getD, hx]; rfl
  rw [hg]
  exact ⟨b, o, R, c, e, hb, by have := hc 0 _ rfl; rwa [Nat.mul_one, Nat.add_zero] at this, h1, h2⟩
def Fits10 (L : List (List Nat)) (w : World) (e : Ending) (w' : World) : Prop :=
  ∃ b, e = .returned (.bool b) ∧ (b = true → L.length ≤ 2147483647 ∧ ∀ x ∈ L, x.length ≤ 2147483647) ∧ w' = w
set_option maxRecDepth 20000 in
set_option maxHeartbeats 4000000 in
theorem fits10Q (L : List (List Nat)) (A : Option Addr) (N c : Nat) (w : World) (hR : RdL FB 1 w A N L) (hN : N ≤ 9223372036854775807) (hlen : ∀ x ∈ L, x.length ≤ 9223372036854775807) : Calls Try.prog 6 #[.slice A N c] w (Fits10 L w) := by
  have HN := hid hR.1
  have HR := hid hR
  have HLE := hid hlen
  clear hR hlen
  by_cases hbig : N ≤ 2147483647
  case neg =>
    have h' : (2147483647 : Int) < (N : Int) := by omega
    go_enter Try.func6, Try.ntmps6
    go_wp2_with fail
    go_ret
    exact ⟨false, rfl, (fun h => by cases h), rfl⟩
  case pos =>
  have h' : ¬ (2147483647 : Int) < (N : Int) := by omega
  go_enter Try.func6, Try.ntmps6
  go_wp2_with fail
  go_loopw [10] (fun iv wr => ∃ (k : Nat), k ≤ N ∧ iv = .int .i64 (k : Nat) ∧ Hid (∀ j, j < k → (L.getD j []).length ≤ 2147483647) ∧ wr = w) (fun iv _ => N - (intOf iv).toNat)
  case atStart => exact ⟨0, by omega, rfl, hid (fun j hj => absurd hj (by omega)), rfl⟩
  case round =>
    obtain ⟨k, hk1, rfl, HJ, rfl⟩ := hrel
    by_cases hlt : k < N
    case neg =>
      obtain rfl : k = N := by omega
      have hlt' : ¬ (k : Int) < (k : Int) := by omega
      go_wp2_with fail
      go_ret
      refine ⟨true, rfl, fun _ => ⟨by rw [HN.out]; exact hbig, fun x hx => ?_⟩, rfl⟩
      obtain ⟨j, hj, rfl⟩ := List.getElem_of_mem hx
      have := HJ.out j (by rw [← HN.out]; exact hj)
      rwa [List.getD, List.getElem?_eq_getElem hj] at this
    case pos =>
      have hlt' : (k : Int) < (N : Int) := by omega
      obtain ⟨b, o, R, cR, hA, hb, c0, a0, _⟩ := HR.out.bytes k hlt
      subst hA
      have hkl : k < L.length := by rw [HN.out]; exact hlt
      have hle := HLE.out (L.getD k []) (by rw [List.getD, List.getElem?_eq_getElem hkl]; exact List.getElem_mem hkl)
      have HJK := hid (fun h2 j (hj : j < k + 1) => show (L.getD j []).length ≤ 2147483647 from by
        by_cases h : j < k
        · exact HJ.out j h
        · obtain rfl : j = k := by omega
          exact h2)
      generalize (L.getD k []).length = t at *
      clear hkl
      by_cases hT : t ≤ 2147483647
      · have hT' : ¬ (2147483647 : Int) < (t : Int) := by omega
        have HJ2 := hid (HJK.out hT)
        go_wp2_with fail
        go_roundw
        case rel => exact ⟨k + 1, by omega, by go_num, HJ2, trivial⟩
        case measure => first | (simp [intOf]; done) | (simp [intOf]; omega)
      · have hT' : (2147483647 : Int) < (t : Int) := by omega
        go_wp2_with fail
        go_ret
        exact ⟨false, rfl, (fun h => by cases h), rfl⟩
end Go.Proofs.Ytpffffhgmhpkiaa
