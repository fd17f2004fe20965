import Derived.Test.Qxb6613358aDoorProofs
import Derived.Test.Qxb6613358aDoorTie
import Derived.Test.Qxb6613358aDoorCards
import Derived.SevenTiedAt
namespace Go.Proofs.Qxb6613358aDoor
open Go
set_option linter.unusedVariables false

theorem named3 : Tryd.prog.funcNamed Rows.fnSQLDistinctUpperNamesRow.func = some 3 := by kernel_rfl

theorem card_holds : Rows.FnSQLDistinctUpperNamesCardSaid :=
  Claim7.holds_tied_plain_at .later [] [.data] true (true, "39d7c83ff1d4bd1b77bfd58d2a4e79c0967003258fe70a397f3bb3a6d363ccce") false row_holds (fun _ h => by cases h) (by kernel_rfl) (fun _ h => by cases h) fnSQLDistinctUpperNames_row_tie rfl ⟨rfl, rfl⟩ (by kernel_rfl) rfl
    (fun f fn hf hfn => by
      obtain rfl : f = 3 := Option.some.inj (named3.symm.trans hf) |>.symm
      obtain rfl : fn = Tryd.f3 := (Option.some.inj (Tryd.func3.symm.trans hfn)).symm
      exact ⟨by kernel_rfl, fun j t ht => by
        rw [Tryd.params3] at ht
        have hm : t ∈ [5, 5] := by simpa using Array.mem_of_getElem? ht
        have hall : ([5, 5].all fun u => !Tryd.prog.wantsStandIn u) = true := by kernel_rfl
        exact (show Tryd.prog.wantsStandIn t = false by simpa using List.all_eq_true.1 hall t hm)⟩)
    (by kernel_rfl)

end Go.Proofs.Qxb6613358aDoor
