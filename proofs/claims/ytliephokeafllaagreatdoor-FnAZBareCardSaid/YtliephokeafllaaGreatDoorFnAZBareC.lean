/- The tied card of FnAZBare: for every input it returns true, does not panic, and leaves its arguments as they were; the tables that it may read are tied to the program's text. -/
import Derived.Test.YtliephokeafllaaGreatDoorCards
import Derived.Test.YtliephokeafllaaGreatDoorTie
import Derived.Test.YtliephokeafllaaGreatDoorFnAZBare
import Derived.SevenTiedAt
namespace Go.Proofs.YtliephokeafllaaGreatDoor.fnAZBareDone
open Go

theorem proved : Rows.FnAZBareCardSaid :=
  Claim7.holds_tied_plain_at .later [] [.data, .data, .data] true (true, "bb3d3e2cc7930ce01bff0d215d741f3c65b8d7365b10a73e7cad5b7dd85ecfa9") false
    over (fun _ h => by cases h) (by kernel_rfl) (fun _ h => by cases h) fnAZBare_row_tie rfl ⟨rfl, rfl⟩ (by kernel_rfl) rfl
    (fun f fn hf hfn => by
      obtain rfl : f = 3 := Option.some.inj ((show Tryz.prog.funcNamed "given.example/pub-quietzone/laws.FnAZBare" = some 3 by kernel_rfl).symm.trans hf) |>.symm
      obtain rfl : fn = Tryz.f3 := (Option.some.inj (Tryz.func3.symm.trans hfn)).symm
      exact ⟨by kernel_rfl, fun j t ht => by
        rw [Tryz.params3] at ht
        have hm : t ∈ [22, 4, 5, 23] := by simpa using Array.mem_of_getElem? ht
        have hall : ([22, 4, 5, 23].all fun u => !Tryz.prog.wantsStandIn u) = true := by kernel_rfl
        exact (show Tryz.prog.wantsStandIn t = false by simpa using List.all_eq_true.1 hall t hm)⟩)
    (by kernel_rfl)
#print axioms proved
end Go.Proofs.YtliephokeafllaaGreatDoor.fnAZBareDone
