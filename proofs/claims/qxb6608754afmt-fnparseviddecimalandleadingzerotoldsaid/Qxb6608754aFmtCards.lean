/-
  DERIVED. GIVEN WITH THE SEED: THE CARDS: each row of Qxb6608754aFmtRows.lean that lists a variable, with what it lists TIED to the program's text (the seventh form; the later family's looks); each row that meets fmt, with fmt's text TOLD by the authors' own Lean function (tested against real Go, not proved from fmt's source: count such statements apart). THE CARD IS WHAT COUNTS. Prove the row's statement (the work); the ties are given (Qxb6608754aFmtTie.lean); close each card by the builder's one call (the guide's Derived/Test/ToyasCard.lean, 'card_holds'). Laid BY PROGRAM, IN A SANDBOX (cutbox-door.mjs). By AI agents, Wed Nov 11 2026. No macro, syntax, notation, axiom, sorry.
-/
import Derived.Test.Qxb6608754aFmtRows
import GoSem.ClaimSeven
namespace Go.Proofs.Qxb6608754aFmt
namespace Rows

/-- THE TOLD AND TIED CARD OF 'zzlaws_internal_cli_b1.FnParseVIDDecimalAndLeadingZero'. -/
def fnParseVIDDecimalAndLeadingZeroCard : Claim7 := { stood := { row := fnParseVIDDecimalAndLeadingZeroRow, standIns := [], harness := (true, "14dff13bac32b98265ba115bacde45d6e014ec7bbcd949578cf58ad8c3b2c6e6"), looks := true }, told := true, laidByText := true, laidKinds := [.data, .data, .data, .sentinel, .sentinel], laidTests := true, laidLooks := .later, goes := false }
def FnParseVIDDecimalAndLeadingZeroToldSaid : Prop := Claim7.holds Tryf.pinned (.plain (OpenSpec.ofChange fnParseVIDDecimalAndLeadingZeroSpec)) fnParseVIDDecimalAndLeadingZeroCard
/-- ITS FALSE NEIGHBOUR. Refute it at one input. -/
def FnParseVIDDecimalAndLeadingZeroToldWrongFalsely : Prop := Claim7.holds Tryf.pinned (.plain (OpenSpec.ofChange fnParseVIDDecimalAndLeadingZeroWrong)) fnParseVIDDecimalAndLeadingZeroCard

/-- THE TOLD AND TIED CARD OF 'zzlaws_internal_cli_b1.FnParseVIDSigns'. -/
def fnParseVIDSignsCard : Claim7 := { stood := { row := fnParseVIDSignsRow, standIns := [], harness := (true, "14dff13bac32b98265ba115bacde45d6e014ec7bbcd949578cf58ad8c3b2c6e6"), looks := true }, told := true, laidByText := true, laidKinds := [.data, .data, .data, .sentinel, .sentinel], laidTests := true, laidLooks := .later, goes := false }
def FnParseVIDSignsToldSaid : Prop := Claim7.holds Tryf.pinned (.plain (OpenSpec.ofChange fnParseVIDSignsSpec)) fnParseVIDSignsCard
/-- ITS FALSE NEIGHBOUR. Refute it at one input. -/
def FnParseVIDSignsToldWrongFalsely : Prop := Claim7.holds Tryf.pinned (.plain (OpenSpec.ofChange fnParseVIDSignsWrong)) fnParseVIDSignsCard
end Rows
end Go.Proofs.Qxb6608754aFmt
