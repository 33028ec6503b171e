/- The tied card of FnDMText: for every input it returns true, does not panic, and leaves its arguments as they were; the tables that it may read are tied to the program's text. -/
import Derived.Test.YtfmjkflihnfneaaDoorCards
import Derived.Test.YtfmjkflihnfneaaDoorTie
import Derived.Test.YtfmjkflihnfneaaDoorFnDMText
import Derived.SevenTiedAt
namespace Go.Proofs.YtfmjkflihnfneaaDoor.fnDMTextDone
open Go

theorem proved : Rows.FnDMTextCardSaid :=
  Claim7.holds_tied_plain_at .later [] [.data, .data, .data] true (true, "f69f007a1cc3b7f8664f6a6c935e0abca1e3d1346ea335e0997e10435c940aff") false
    over (fun _ h => by cases h) (by kernel_rfl) (fun _ h => by cases h) fnDMText_row_tie rfl ⟨rfl, rfl⟩ (by kernel_rfl) rfl
    (fun f fn hf hfn => by
      obtain rfl : f = 5 := Option.some.inj ((show Tryd.prog.funcNamed "given.example/pub-quietzone/laws.FnDMText" = some 5 by kernel_rfl).symm.trans hf) |>.symm
      obtain rfl : fn = Tryd.f5 := (Option.some.inj (Tryd.func5.symm.trans hfn)).symm
      exact ⟨by kernel_rfl, fun j t ht => by
        rw [Tryd.params5] at ht
        have hm : t ∈ [9, 3] := by simpa using Array.mem_of_getElem? ht
        have hall : ([9, 3].all fun u => !Tryd.prog.wantsStandIn u) = true := by kernel_rfl
        exact (show Tryd.prog.wantsStandIn t = false by simpa using List.all_eq_true.1 hall t hm)⟩)
    (by kernel_rfl)
#print axioms proved
end Go.Proofs.YtfmjkflihnfneaaDoor.fnDMTextDone
