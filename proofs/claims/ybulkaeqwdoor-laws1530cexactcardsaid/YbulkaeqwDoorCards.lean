/-
  DERIVED. GIVEN WITH THE SEED: THE CARDS: each row of YbulkaeqwDoorRows.lean that lists a variable, with what it lists TIED to the program's text (the seventh form; the later family's looks); each row that meets fmt, with fmt's text TOLD by the authors' own Lean function (tested against real Go, not proved from fmt's source: count such statements apart). THE CARD IS WHAT COUNTS. Prove the row's statement (the work); the ties are given (YbulkaeqwDoorTie.lean); close each card by the builder's one call (the guide's Derived/Test/ToyasCard.lean, 'card_holds'). Laid BY PROGRAM, IN A SANDBOX (cutbox-door.mjs). By AI agents, Wed Nov 11 2026. No macro, syntax, notation, axiom, sorry.
-/
import Derived.Test.YbulkaeqwDoorRows
import GoSem.ClaimSeven
namespace Go.Proofs.YbulkaeqwDoor
namespace Rows

/-- THE TIED CARD OF 'node.LawS1530CExact'. -/
def lawS1530CExactCard : Claim7 := { stood := { row := lawS1530CExactRow, standIns := [], harness := (true, "5900e914ae8c26868adeebd61849619ed0a3f27321df60307d01f4fcfef254aa"), looks := true }, kinds := [], alts := [], laidByText := true, laidKinds := [.sentinel], laidTests := true, laidLooks := .later }
def LawS1530CExactCardSaid : Prop := Claim7.holds Ybad.pinned (.plain (OpenSpec.ofChange lawS1530CExactSpec)) lawS1530CExactCard

/-- THE TIED CARD OF 'node.LawS1530CScript'. -/
def lawS1530CScriptCard : Claim7 := { stood := { row := lawS1530CScriptRow, standIns := [], harness := (true, "5900e914ae8c26868adeebd61849619ed0a3f27321df60307d01f4fcfef254aa"), looks := true }, kinds := [], alts := [], laidByText := true, laidKinds := [.sentinel], laidTests := true, laidLooks := .later }
def LawS1530CScriptCardSaid : Prop := Claim7.holds Ybad.pinned (.plain (OpenSpec.ofChange lawS1530CScriptSpec)) lawS1530CScriptCard
end Rows
end Go.Proofs.YbulkaeqwDoor
