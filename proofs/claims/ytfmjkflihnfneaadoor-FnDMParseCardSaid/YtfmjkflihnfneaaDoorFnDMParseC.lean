/- The tied card of FnDMParse: for every input it returns true, does not panic, and leaves its arguments as they were; the tables that it may read are tied to the program's text. -/
import Derived.Test.YtfmjkflihnfneaaDoorCards
import Derived.Test.YtfmjkflihnfneaaDoorTie
import Derived.Test.YtfmjkflihnfneaaDoorFnDMParse
import Derived.SevenTiedAt
namespace Go.Proofs.YtfmjkflihnfneaaDoor.fnDMParseDone
open Go

theorem proved : Rows.FnDMParseCardSaid :=
  Claim7.holds_tied_plain_at .later [] [.data, .data, .data] true (true, "f69f007a1cc3b7f8664f6a6c935e0abca1e3d1346ea335e0997e10435c940aff") false
    over (fun _ h => by cases h) (by kernel_rfl) (fun _ h => by cases h) fnDMParse_row_tie rfl ⟨rfl, rfl⟩ (by kernel_rfl) rfl
    (fun f fn hf hfn => by
      obtain rfl : f = 4 := Option.some.inj ((show Tryd.prog.funcNamed "given.example/pub-quietzone/laws.FnDMParse" = some 4 by kernel_rfl).symm.trans hf) |>.symm
      obtain rfl : fn = Tryd.f4 := (Option.some.inj (Tryd.func4.symm.trans hfn)).symm
      exact ⟨by kernel_rfl, fun j t ht => by
        rw [Tryd.params4] at ht
        have hm : t ∈ [25, 3] := by simpa using Array.mem_of_getElem? ht
        have hall : ([25, 3].all fun u => !Tryd.prog.wantsStandIn u) = true := by kernel_rfl
        exact (show Tryd.prog.wantsStandIn t = false by simpa using List.all_eq_true.1 hall t hm)⟩)
    (by kernel_rfl)
#print axioms proved
end Go.Proofs.YtfmjkflihnfneaaDoor.fnDMParseDone
