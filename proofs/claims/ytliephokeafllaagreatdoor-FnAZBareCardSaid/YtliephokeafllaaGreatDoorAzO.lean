/- impl.AZBits; FnAZLaid. -/
import Derived.Test.YtliephokeafllaaGreatDoorAzM
import Derived.Test.YtliephokeafllaaGreatDoorAzJ
import Derived.Test.YtliephokeafllaaGreatDoorAzN
namespace Go.Proofs.YtliephokeafllaaGreatDoor
open Go.RowKit
set_option linter.unusedVariables false
set_option linter.unusedSimpArgs false

theorem extractM (c : Bool) (L : Nat) (hL0 : 1 ≤ L) (hL : L ≤ 32) (d dd q g rs nb : Nat) (pv : Value) (ws : List Nat) (B : Nat → Nat → Bool) (b : List Bool) (w : World)
    (hd : w.cell? ⟨d, 0, none⟩ = some (.pointer (some ⟨dd, 0, none⟩))) (hdw : d < w.heap.size) (hdd : Arr w dd 82 [pv, .bool c, .int .i64 (nb : Nat), .int .i64 (L : Nat)])
    (hM : IsMat w q g 145 146 (azWhole c L) (azWhole c L) rs ws B) (hg : g < w.heap.size) (hrs : rs ≤ 32) (hb : b.length = azBitsN c L)
    (hB : ∀ i k j n, AzIn c L i k j n → B (azX c L i k j n) (azY c L i k j n) = b.getD (azIdx c L i k j n) false) :
    Calls Tryz.prog 39 #[.pointer (some ⟨d, 0, none⟩), .pointer (some ⟨q, 0, none⟩)] w (BitsNew (azBitsN c L) b w) := by
  cases c
  · exact extractF L hL0 hL d dd q g rs nb pv ws B b w hd hdw hdd hM hg hrs hb hB
  · exact extractT L hL0 hL d dd q g rs nb pv ws B b w hd hdw hdd hM hg hrs hb hB

theorem u8s_of (zs : List Int) (hwf : ∀ n ∈ zs, (Lit.int .u8 n).wf = true) : zs.map (Value.int .u8) = u8s (zs.map Int.toNat) ∧ (∀ x ∈ zs.map Int.toNat, x < 256) := by
  constructor
  · unfold u8s
    rw [List.map_map]
    apply List.map_congr_left
    intro n hn
    have := wf_u8 (hwf n hn)
    show Value.int .u8 n = Value.int .u8 ((n.toNat : Nat) : Int)
    rw [Int.toNat_of_nonneg this.1]
  · intro x hx
    obtain ⟨n, hn, rfl⟩ := List.mem_map.1 hx
    have := wf_u8 (hwf n hn)
    omega
theorem azLay_bd (c : Bool) (n : Nat) : 1 ≤ azLay c n ∧ azLay c n ≤ 32 := by unfold azLay; cases c <;> simp <;> omega
/-- True, and nothing that was there has turned. -/
def TrueOut (w : World) (e : Ending) (w' : World) : Prop := e = .returned (.bool true) ∧ Below w.heap.size w w'

end Go.Proofs.YtliephokeafllaaGreatDoor
