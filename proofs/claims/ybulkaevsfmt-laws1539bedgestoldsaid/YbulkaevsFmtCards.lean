/-
  DERIVED. GIVEN WITH THE SEED: THE CARDS: each row of YbulkaevsFmtRows.lean that lists a variable, with what it lists TIED to the program's text (the seventh form; the later family's looks); each row that meets fmt, with fmt's text TOLD by the authors' own Lean function (tested against real Go, not proved from fmt's source: count such statements apart). THE CARD IS WHAT COUNTS. Prove the row's statement (the work); the ties are given (YbulkaevsFmtTie.lean); close each card by the builder's one call (the guide's Derived/Test/ToyasCard.lean, 'card_holds'). Laid BY PROGRAM, IN A SANDBOX (cutbox-door.mjs). By AI agents, Wed Nov 11 2026. No macro, syntax, notation, axiom, sorry.
-/
import Derived.Test.YbulkaevsFmtRows
import GoSem.ClaimSeven
namespace Go.Proofs.YbulkaevsFmt
namespace Rows

/-- THE TOLD AND TIED CARD OF 'wire.LawS1539BRaw'. -/
def lawS1539BRawCard : Claim7 := { stood := { row := lawS1539BRawRow, standIns := [], harness := (true, "f0ddb517b5e648d9d456a5616e907b201d34a8bb2ae5fa78bd7d205d8272a9c8"), looks := true }, told := true, laidByText := true, laidKinds := [.sentinel], laidTests := true, laidLooks := .later, goes := false }
def LawS1539BRawToldSaid : Prop := Claim7.holds Ybaf.pinned (.plain (OpenSpec.ofChange lawS1539BRawSpec)) lawS1539BRawCard
/-- ITS FALSE NEIGHBOUR. Refute it at one input. -/
def LawS1539BRawToldWrongFalsely : Prop := Claim7.holds Ybaf.pinned (.plain (OpenSpec.ofChange lawS1539BRawWrong)) lawS1539BRawCard

/-- THE TOLD AND TIED CARD OF 'wire.LawS1539BEdges'. -/
def lawS1539BEdgesCard : Claim7 := { stood := { row := lawS1539BEdgesRow, standIns := [], harness := (true, "f0ddb517b5e648d9d456a5616e907b201d34a8bb2ae5fa78bd7d205d8272a9c8"), looks := true }, told := true, laidByText := true, laidKinds := [.sentinel], laidTests := true, laidLooks := .later, goes := false }
def LawS1539BEdgesToldSaid : Prop := Claim7.holds Ybaf.pinned (.plain (OpenSpec.ofChange lawS1539BEdgesSpec)) lawS1539BEdgesCard
/-- ITS FALSE NEIGHBOUR. Refute it at one input. -/
def LawS1539BEdgesToldWrongFalsely : Prop := Claim7.holds Ybaf.pinned (.plain (OpenSpec.ofChange lawS1539BEdgesWrong)) lawS1539BEdgesCard
end Rows
end Go.Proofs.YbulkaevsFmt
