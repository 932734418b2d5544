/-
  NARROWER THAN 'FOR EVERY INPUT', by the rows' own cells (each row's printed sentence says how): LawS1530CExact: ifaces, laid · LawS1530CScript: ifaces, laid.
  DERIVED. THE GIVEN ROWS OF THIS SEAT. 2 by the template 'for every input the law returns true; each argument reads behind the call as it read before'; 0 by the template 'total and deterministic' (their statements: YbulkaeqwDoorTotals.lean).
  GIVEN WITH THE SEED: the statements are not yours to turn. If you find one false, say at which input.
  Laid BY PROGRAM, IN A SANDBOX (cutbox-rows.mjs): the forced cells as the released guide's own fill.sh prints them over the translation 46f43bb6e4d8a19d… (all of the seat's roots in one cut). By AI agents, Wed Nov 11 2026. No macro, syntax, notation, axiom, sorry.
-/
import Derived.Test.YbulkaeqwDoorChecked
import GoSem.Claim
import GoSem.ClaimJoined
import GoSem.ClaimMapViews
import Derived.JoinedTies
import Derived.KernelRfl
namespace Go.Proofs.YbulkaeqwDoor
/- THE CELL 'sum', in the pinned program and in every row, IS THE sha256 OF THE DUMP (.gsa) THAT YbulkaeqwDoorProg.lean LOADS. Nothing in Lean hashes anything: it is a label: what it is worth is what the hold of that sum in a sandbox is worth. -/
noncomputable def Ybad.pinned : Pinned := { name := "ybulkaeqwdoor", sum := "46f43bb6e4d8a19d3e93eed2d6c79c31faba23fd0d4172d2a206c005e763bd96", checked := Ybad.checked }
namespace Rows
def none {H : Type} : Left H := { results := [], args := [] }

/- WHAT THE LISTED PACKAGE-LEVEL VARIABLES READ AS WHEN THE CALL BEGINS. Each datum BY PROGRAM (the guide's laid-datum.mjs) off the statement by which the dump's own 'gosem.cut.vars' lays the variable. In a bare row this is a premise. The card (YbulkaeqwDoorCards.lean) ties it to the program's text. -/
def laid_example_com_nearhop_nearhop_node_errCutShort {H : Type} : DataW H := .iface "*errors.errorString" (.ptr (.agg [.lit (.string [109, 101, 115, 115, 97, 103, 101, 32, 99, 117, 116, 32, 115, 104, 111, 114, 116])]))

/-- 'node.LawS1530CExact': WHATEVER THE INPUT: true; the input reads as it did. -/
def lawS1530CExactSpec : ChangeSpec := { name := "lawS1530CExact", vars := ["example.com/nearhop/nearhop/node.errCutShort"], fn := fun _ => fun
  | [d1, d2, d3, g1] => { results := [.lit (.bool true)], args := [d1, d2, d3], vars := [g1] }
  | _ => none }
def lawS1530CExactRow : OpenClaim := { program := "ybulkaeqwdoor", sum := "46f43bb6e4d8a19d3e93eed2d6c79c31faba23fd0d4172d2a206c005e763bd96", func := "example.com/nearhop/nearhop/node.LawS1530CExact", spec := "lawS1530CExact", named := ["example.com/nearhop/nearhop/node.errCutShort"], ifaces := true, apart := false, laid := [("example.com/nearhop/nearhop/node.errCutShort", laid_example_com_nearhop_nearhop_node_errCutShort)] }
def LawS1530CExactSaid : Prop := lawS1530CExactRow.holds Ybad.pinned (OpenSpec.ofChange lawS1530CExactSpec)

/-- ITS FALSE NEIGHBOUR: 'it returns false'. Refute it at one input. -/
def lawS1530CExactWrong : ChangeSpec := { name := "lawS1530CExact", vars := ["example.com/nearhop/nearhop/node.errCutShort"], fn := fun _ => fun
  | [d1, d2, d3, g1] => { results := [.lit (.bool false)], args := [d1, d2, d3], vars := [g1] }
  | _ => none }
def LawS1530CExactWrongFalsely : Prop := lawS1530CExactRow.holds Ybad.pinned (OpenSpec.ofChange lawS1530CExactWrong)

/-- 'node.LawS1530CScript': WHATEVER THE INPUT: true; the input reads as it did. -/
def lawS1530CScriptSpec : ChangeSpec := { name := "lawS1530CScript", vars := ["example.com/nearhop/nearhop/node.errCutShort"], fn := fun _ => fun
  | [d1, d2, g1] => { results := [.lit (.bool true)], args := [d1, d2], vars := [g1] }
  | _ => none }
def lawS1530CScriptRow : OpenClaim := { program := "ybulkaeqwdoor", sum := "46f43bb6e4d8a19d3e93eed2d6c79c31faba23fd0d4172d2a206c005e763bd96", func := "example.com/nearhop/nearhop/node.LawS1530CScript", spec := "lawS1530CScript", named := ["example.com/nearhop/nearhop/node.errCutShort"], ifaces := true, apart := false, laid := [("example.com/nearhop/nearhop/node.errCutShort", laid_example_com_nearhop_nearhop_node_errCutShort)] }
def LawS1530CScriptSaid : Prop := lawS1530CScriptRow.holds Ybad.pinned (OpenSpec.ofChange lawS1530CScriptSpec)

/-- ITS FALSE NEIGHBOUR: 'it returns false'. Refute it at one input. -/
def lawS1530CScriptWrong : ChangeSpec := { name := "lawS1530CScript", vars := ["example.com/nearhop/nearhop/node.errCutShort"], fn := fun _ => fun
  | [d1, d2, g1] => { results := [.lit (.bool false)], args := [d1, d2], vars := [g1] }
  | _ => none }
def LawS1530CScriptWrongFalsely : Prop := lawS1530CScriptRow.holds Ybad.pinned (OpenSpec.ofChange lawS1530CScriptWrong)

end Rows
end Go.Proofs.YbulkaeqwDoor
