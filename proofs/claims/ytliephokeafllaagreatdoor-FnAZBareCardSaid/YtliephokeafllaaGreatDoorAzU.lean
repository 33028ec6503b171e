/- spec.AZPlain; impl.AZText; FnAZJoins. -/
import Derived.Test.YtliephokeafllaaGreatDoorAzT
import Derived.Test.YtliephokeafllaaGreatDoorAzE
namespace Go.Proofs.YtliephokeafllaaGreatDoor
open Go.RowKit
set_option linter.unusedVariables false
set_option linter.unusedSimpArgs false

theorem bytes_len (s : AzSt) (l : List Nat) : (s.bytes l).bits.length ≤ s.bits.length + 21 + 8 * l.length := by
  unfold AzSt.bytes
  split
  · omega
  · simp only [List.length_append, putBits_len, byteBits_len]
    split
    · simp only [putBits_len]; omega
    · simp only [putBits_len, List.length_append]; omega
theorem plain_len (l : List Nat) : ∀ j, (plainTo l j).bits.length ≤ 600 * j ∧ (plainTo l j).text.length ≤ 62 * j
  | 0 => ⟨Nat.le_refl _, Nat.le_refl _⟩
  | j + 1 => by
    obtain ⟨h1, h2⟩ := plain_len l j
    have h3 := bytes_len (plainTo l j) ((l.drop (62 * j)).take 62)
    have h4 : ((l.drop (62 * j)).take 62).length ≤ 62 := by rw [List.length_take]; omega
    constructor
    · show ((plainTo l j).bytes _).bits.length ≤ _
      omega
    · show ((plainTo l j).bytes _).text.length ≤ _
      unfold AzSt.bytes
      split
      · omega
      · rw [List.length_append, List.length_map]; omega
theorem plain_long (l : List Nat) (hl : 0 < l.length) : ∀ j, 1 ≤ j → 5 ≤ (plainTo l j).bits.length
  | 0, h => by omega
  | 1, _ => by
    show 5 ≤ ((plainTo l 0).bytes ((l.drop (62 * 0)).take 62)).bits.length
    have h4 : 0 < ((l.drop (62 * 0)).take 62).length := by rw [List.length_take, List.length_drop]; omega
    unfold AzSt.bytes
    rw [if_neg (by show ¬ (_ ∨ 2 < 0); omega)]
    simp only [List.length_append, putBits_len]
    omega
  | j + 2, _ => by
    have := plain_long l hl (j + 1) (by omega)
    obtain ⟨c, hc⟩ := bytes_grow (plainTo l (j + 1)) ((l.drop (62 * (j + 1))).take 62)
    show 5 ≤ ((plainTo l (j + 1)).bytes _).bits.length
    rw [hc, List.length_append]
    omega
theorem IsAz.below {w w' : World} {q B : Nat} {v : Value} {s : AzSt} (h : IsAz w q B v s) {C : Nat} (hb : Below C w w') (hC : C = w.heap.size) : IsAz w' q B v s := by
  subst hC
  exact ⟨h.cells.below hb h.cells.lt, h.own.below hb (fun k hk => (h.own.lt k hk).2), h.apart, h.le⟩

/-- A text and a sign that it was read. -/
def SaidOut (X : List Nat) (w : World) (e : Ending) (w' : World) : Prop := e = .returned (.tuple #[.string (strOf X), .bool true]) ∧ Below w.heap.size w w'
theorem newDecM (w : World) : Calls Tryz.prog 19 #[] w (fun e w' => e = .returned (.pointer (some ⟨w.heap.size, 0, none⟩)) ∧ w' = w.alloc (.cells #[.pointer none] 78)) := by
  go_enter Tryz.func19, Tryz.ntmps19
  go_wp2_with fail
  go_ret
  exact ⟨rfl, rfl⟩
theorem u8s_of' (zs : List Int) (hwf : ∀ n ∈ zs, (Lit.int .u8 n).wf = true) : zs.map (Value.int .u8) = u8s (zs.map Int.toNat) ∧ (∀ x ∈ zs.map Int.toNat, x < 256) := by
  constructor
  · unfold u8s
    rw [List.map_map]
    apply List.map_congr_left
    intro n hn
    have := wf_u8 (hwf n hn)
    show Value.int .u8 n = Value.int .u8 ((n.toNat : Nat) : Int)
    rw [Int.toNat_of_nonneg this.1]
  · intro x hx
    obtain ⟨n, hn, rfl⟩ := List.mem_map.1 hx
    have := wf_u8 (hwf n hn)
    omega
def TrueOut2 (w : World) (e : Ending) (w' : World) : Prop := e = .returned (.bool true) ∧ Below w.heap.size w w'
theorem low_take (a : List Nat) (i : Nat) (hi : i < a.length) : (a.take (i + 1)).map (· % 128) = (a.take i).map (· % 128) ++ [a.getD i 0 % 128] := low_next a i hi
theorem u8s_set (l : List Nat) (k n : Nat) : (u8s l).set k (.int .u8 (n : Nat)) = u8s (l.set k n) := by simp [u8s, List.map_set]
theorem u8s_rep (n : Nat) : List.replicate n (Value.int .u8 0) = u8s (List.replicate n 0) := by simp [u8s]
theorem fill_next (a : List Nat) (n i : Nat) (hi : i < n) (ha : n ≤ a.length) :
    ((a.take i).map (· % 128) ++ List.replicate (n - i) 0).set i (a.getD i 0 % 128) = (a.take (i + 1)).map (· % 128) ++ List.replicate (n - (i + 1)) 0 := by
  rw [low_next a i (by omega)]
  have hl : ((a.take i).map (· % 128)).length = i := by rw [List.length_map, List.length_take]; omega
  rw [List.set_append_right _ _ (by omega), hl, Nat.sub_self, show n - i = (n - (i + 1)) + 1 from by omega, List.replicate_succ, List.set_cons_zero, List.append_assoc]
  rfl
theorem arr_text {w : World} {g : Nat} {l : List Nat} (h : Arr w g 5 (u8s l)) (n c : Nat) (hn : n = l.length) : (convert 22 9 (.slice (some ⟨g, 0, none⟩) n c)).run Tryz.prog w = .ok (.string (strOf l)) w := by
  subst hn
  have := run_convert_bytes_arg (P := Tryz.prog) w 22 5 Tryz.underlying22 Tryz.underlying5 g 0 l.length c (l.map fun n => ((n : Nat) : Int)) (by simp) (fun i hi => by
    rw [Nat.zero_add, h.cell i (by rw [u8s_len]; exact hi)]
    simp [u8s, List.getD, List.getElem?_eq_getElem hi]) 9 Tryz.underlying9
  rwa [strOf_nums] at this

end Go.Proofs.YtliephokeafllaaGreatDoor
