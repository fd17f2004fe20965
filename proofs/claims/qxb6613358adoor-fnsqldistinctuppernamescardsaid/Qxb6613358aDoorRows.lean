/-
  NARROWER THAN 'FOR EVERY INPUT', by the rows' own cells (each row's printed sentence says how): FnSQLDistinctUpperNames: laid.
  DERIVED. THE GIVEN ROWS OF THIS SEAT. 1 by the template 'for every input the law returns true; each argument reads behind the call as it read before'; 0 by the template 'total and deterministic' (their statements: Qxb6613358aDoorTotals.lean).
  GIVEN WITH THE SEED: the statements are not yours to turn. If you find one false, say at which input.
  Laid BY PROGRAM, IN A SANDBOX (cutbox-rows.mjs): the forced cells as the released guide's own fill.sh prints them over the translation 92135e36f80c3999… (all of the seat's roots in one cut). By AI agents, Wed Nov 11 2026. No macro, syntax, notation, axiom, sorry.
-/
import Derived.Test.Qxb6613358aDoorChecked
import GoSem.Claim
import GoSem.ClaimJoined
import GoSem.ClaimMapViews
import Derived.JoinedTies
import Derived.KernelRfl
namespace Go.Proofs.Qxb6613358aDoor
/- THE CELL 'sum', in the pinned program and in every row, IS THE sha256 OF THE DUMP (.gsa) THAT Qxb6613358aDoorProg.lean LOADS. Nothing in Lean hashes anything: it is a label: what it is worth is what the hold of that sum in a sandbox is worth. -/
noncomputable def Tryd.pinned : Pinned := { name := "qxb6613358adoor", sum := "92135e36f80c39990ff2fee69c15c0458dc42d71727a712f5f2fec65b072834a", checked := Tryd.checked }
namespace Rows
def none {H : Type} : Left H := { results := [], args := [] }

/- WHAT THE LISTED PACKAGE-LEVEL VARIABLES READ AS WHEN THE CALL BEGINS. Each datum BY PROGRAM (the guide's laid-datum.mjs) off the statement by which the dump's own 'gosem.cut.vars' lays the variable. In a bare row this is a premise. The card (Qxb6613358aDoorCards.lean) ties it to the program's text. -/
def laid_example_com_tabled_tabled_pkg_schema_types {H : Type} : DataW H := .agg [.agg [.lit (.string []), .lit (.string []), .lit (.string [])], .agg [.lit (.string [105, 110, 116, 101, 103, 101, 114]), .lit (.string [73, 78, 84, 69, 71, 69, 82]), .lit (.string [105, 110, 116, 101, 103, 101, 114, 115])], .agg [.lit (.string [114, 101, 97, 108]), .lit (.string [82, 69, 65, 76]), .lit (.string [110, 117, 109, 98, 101, 114, 115])], .agg [.lit (.string [116, 101, 120, 116]), .lit (.string [84, 69, 88, 84]), .lit (.string [115, 116, 114, 105, 110, 103, 115])]]

/-- 'zzlaws_pkg_schema_b1.FnSQLDistinctUpperNames': WHATEVER THE INPUT: true; the input reads as it did. -/
def fnSQLDistinctUpperNamesSpec : ChangeSpec := { name := "fnSQLDistinctUpperNames", vars := ["example.com/tabled/tabled/pkg/schema.types"], fn := fun _ => fun
  | [d1, d2, g1] => { results := [.lit (.bool true)], args := [d1, d2], vars := [g1] }
  | _ => none }
def fnSQLDistinctUpperNamesRow : OpenClaim := { program := "qxb6613358adoor", sum := "92135e36f80c39990ff2fee69c15c0458dc42d71727a712f5f2fec65b072834a", func := "example.com/tabled/tabled/zzlaws_pkg_schema_b1.FnSQLDistinctUpperNames", spec := "fnSQLDistinctUpperNames", named := ["example.com/tabled/tabled/pkg/schema.types"], apart := false, laid := [("example.com/tabled/tabled/pkg/schema.types", laid_example_com_tabled_tabled_pkg_schema_types)] }
def FnSQLDistinctUpperNamesSaid : Prop := fnSQLDistinctUpperNamesRow.holds Tryd.pinned (OpenSpec.ofChange fnSQLDistinctUpperNamesSpec)

/-- ITS FALSE NEIGHBOUR: 'it returns false'. Refute it at one input. -/
def fnSQLDistinctUpperNamesWrong : ChangeSpec := { name := "fnSQLDistinctUpperNames", vars := ["example.com/tabled/tabled/pkg/schema.types"], fn := fun _ => fun
  | [d1, d2, g1] => { results := [.lit (.bool false)], args := [d1, d2], vars := [g1] }
  | _ => none }
def FnSQLDistinctUpperNamesWrongFalsely : Prop := fnSQLDistinctUpperNamesRow.holds Tryd.pinned (OpenSpec.ofChange fnSQLDistinctUpperNamesWrong)

end Rows
end Go.Proofs.Qxb6613358aDoor
