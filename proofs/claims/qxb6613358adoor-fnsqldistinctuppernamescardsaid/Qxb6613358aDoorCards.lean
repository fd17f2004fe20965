/-
  DERIVED. GIVEN WITH THE SEED: THE CARDS: each row of Qxb6613358aDoorRows.lean that lists a variable, with what it lists TIED to the program's text (the seventh form; the later family's looks); each row that meets fmt, with fmt's text TOLD by the authors' own Lean function (tested against real Go, not proved from fmt's source: count such statements apart). THE CARD IS WHAT COUNTS. Prove the row's statement (the work); the ties are given (Qxb6613358aDoorTie.lean); close each card by the builder's one call (the guide's Derived/Test/ToyasCard.lean, 'card_holds'). Laid BY PROGRAM, IN A SANDBOX (cutbox-door.mjs). By AI agents, Wed Nov 11 2026. No macro, syntax, notation, axiom, sorry.
-/
import Derived.Test.Qxb6613358aDoorRows
import GoSem.ClaimSeven
namespace Go.Proofs.Qxb6613358aDoor
namespace Rows

/-- THE TIED CARD OF 'zzlaws_pkg_schema_b1.FnSQLDistinctUpperNames'. -/
def fnSQLDistinctUpperNamesCard : Claim7 := { stood := { row := fnSQLDistinctUpperNamesRow, standIns := [], harness := (true, "39d7c83ff1d4bd1b77bfd58d2a4e79c0967003258fe70a397f3bb3a6d363ccce"), looks := false }, kinds := [], alts := [], laidByText := true, laidKinds := [.data], laidTests := true, laidLooks := .later }
def FnSQLDistinctUpperNamesCardSaid : Prop := Claim7.holds Tryd.pinned (.plain (OpenSpec.ofChange fnSQLDistinctUpperNamesSpec)) fnSQLDistinctUpperNamesCard
end Rows
end Go.Proofs.Qxb6613358aDoor
