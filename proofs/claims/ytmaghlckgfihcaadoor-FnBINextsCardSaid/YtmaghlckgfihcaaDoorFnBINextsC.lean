/- The tied card of FnBINexts: for every input it returns true, does not panic, and leaves its arguments as they were; the table of math/bits that it reads is tied to the program's text. -/
import Derived.Test.YtmaghlckgfihcaaDoorCards
import Derived.Test.YtmaghlckgfihcaaDoorTie
import Derived.Test.YtmaghlckgfihcaaDoorFnBINexts
import Derived.SevenTiedAt
namespace Go.Proofs.YtmaghlckgfihcaaDoor.fnBINextsDone
open Go

theorem proved : Rows.FnBINextsCardSaid :=
  Claim7.holds_tied_plain_at .later [] [.data] true (true, "dacbbe785a9f655484755456a00d96b2640a9aa7538b10b4d9b62f3fe33b67ea") false
    over (fun _ h => by cases h) (by kernel_rfl) (fun _ h => by cases h) fnBINexts_row_tie rfl ⟨rfl, rfl⟩ (by kernel_rfl) rfl
    (fun f fn hf hfn => by
      obtain rfl : f = 3 := Option.some.inj ((show Tryd.prog.funcNamed "given.example/pub-quietzone/laws.FnBINexts" = some 3 by kernel_rfl).symm.trans hf) |>.symm
      obtain rfl : fn = Tryd.f3 := (Option.some.inj (Tryd.func3.symm.trans hfn)).symm
      exact ⟨by kernel_rfl, fun j t ht => by
        rw [Tryd.params3] at ht
        have hm : t ∈ [22, 23, 4] := by simpa using Array.mem_of_getElem? ht
        have hall : ([22, 23, 4].all fun u => !Tryd.prog.wantsStandIn u) = true := by kernel_rfl
        exact (show Tryd.prog.wantsStandIn t = false by simpa using List.all_eq_true.1 hall t hm)⟩)
    (by kernel_rfl)
#print axioms proved
end Go.Proofs.YtmaghlckgfihcaaDoor.fnBINextsDone
