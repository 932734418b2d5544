/-
  NARROWER THAN 'FOR EVERY INPUT', by the rows' own cells (each row's printed sentence says how): LawS1539BRaw: ifaces, laid · LawS1539BEdges: ifaces, laid.
  DERIVED. THE GIVEN ROWS OF THIS SEAT. 2 by the template 'for every input the law returns true; each argument reads behind the call as it read before'; 0 by the template 'total and deterministic' (their statements: YbulkaevsFmtTotals.lean).
  GIVEN WITH THE SEED: the statements are not yours to turn. If you find one false, say at which input.
  Laid BY PROGRAM, IN A SANDBOX (cutbox-rows.mjs): the forced cells as the released guide's own fill.sh prints them over the translation e306079a3b4ecbd7… (all of the seat's roots in one cut). By AI agents, Wed Nov 11 2026. No macro, syntax, notation, axiom, sorry.
-/
import Derived.Test.YbulkaevsFmtChecked
import GoSem.Claim
import GoSem.ClaimJoined
import GoSem.ClaimMapViews
import Derived.JoinedTies
import Derived.KernelRfl
namespace Go.Proofs.YbulkaevsFmt
/- THE CELL 'sum', in the pinned program and in every row, IS THE sha256 OF THE DUMP (.gsa) THAT YbulkaevsFmtProg.lean LOADS. Nothing in Lean hashes anything: it is a label: what it is worth is what the hold of that sum in a sandbox is worth. -/
noncomputable def Ybaf.pinned : Pinned := { name := "ybulkaevsfmt", sum := "e306079a3b4ecbd74190a26d2e7a5e20494bb6ea8a0b8e65afd5eda9debd31bb", checked := Ybaf.checked }
namespace Rows
def none {H : Type} : Left H := { results := [], args := [] }

/- WHAT THE LISTED PACKAGE-LEVEL VARIABLES READ AS WHEN THE CALL BEGINS. Each datum BY PROGRAM (the guide's laid-datum.mjs) off the statement by which the dump's own 'gosem.cut.vars' lays the variable. In a bare row this is a premise. The card (YbulkaevsFmtCards.lean) ties it to the program's text. -/
def laid_example_com_quorate_quorate_internal_wire_ErrNotProtocol {H : Type} : DataW H := .iface "*errors.errorString" (.ptr (.agg [.lit (.string [110, 111, 116, 32, 116, 104, 101, 32, 113, 117, 111, 114, 97, 116, 101, 32, 112, 114, 111, 116, 111, 99, 111, 108])]))

/-- 'wire.LawS1539BRaw': WHATEVER THE INPUT: true; the input reads as it did. -/
def lawS1539BRawSpec : ChangeSpec := { name := "lawS1539BRaw", vars := ["example.com/quorate/quorate/internal/wire.ErrNotProtocol"], fn := fun _ => fun
  | [d, g1] => { results := [.lit (.bool true)], args := [d], vars := [g1] }
  | _ => none }
def lawS1539BRawRow : OpenClaim := { program := "ybulkaevsfmt", sum := "e306079a3b4ecbd74190a26d2e7a5e20494bb6ea8a0b8e65afd5eda9debd31bb", func := "example.com/quorate/quorate/internal/wire.LawS1539BRaw", spec := "lawS1539BRaw", stops := ["fmt.errorf"], inPlace := ["fmt.errorf", "internal/reflectlite.TypeOf"], unfollowed := true, recurses := true, named := ["example.com/quorate/quorate/internal/wire.ErrNotProtocol"], ifaces := true, apart := false, laid := [("example.com/quorate/quorate/internal/wire.ErrNotProtocol", laid_example_com_quorate_quorate_internal_wire_ErrNotProtocol)] }
/-- NO THEOREM (fmt's text is open here; it may be false): for the released tool's asking of the row's closed facts alone. THE STATEMENT IS 'LawS1539BRawToldSaid' (YbulkaevsFmtCards.lean). -/
def LawS1539BRawFormAsk : Prop := lawS1539BRawRow.holds Ybaf.pinned (OpenSpec.ofChange lawS1539BRawSpec)

/-- ITS FALSE NEIGHBOUR: 'it returns false'. Refute it at one input. -/
def lawS1539BRawWrong : ChangeSpec := { name := "lawS1539BRaw", vars := ["example.com/quorate/quorate/internal/wire.ErrNotProtocol"], fn := fun _ => fun
  | [d, g1] => { results := [.lit (.bool false)], args := [d], vars := [g1] }
  | _ => none }
def LawS1539BRawWrongFormAsk : Prop := lawS1539BRawRow.holds Ybaf.pinned (OpenSpec.ofChange lawS1539BRawWrong)

/-- 'wire.LawS1539BEdges': WHATEVER THE INPUT: true; the input reads as it did. -/
def lawS1539BEdgesSpec : ChangeSpec := { name := "lawS1539BEdges", vars := ["example.com/quorate/quorate/internal/wire.ErrNotProtocol"], fn := fun _ => fun
  | [d1, d2, d3, g1] => { results := [.lit (.bool true)], args := [d1, d2, d3], vars := [g1] }
  | _ => none }
def lawS1539BEdgesRow : OpenClaim := { program := "ybulkaevsfmt", sum := "e306079a3b4ecbd74190a26d2e7a5e20494bb6ea8a0b8e65afd5eda9debd31bb", func := "example.com/quorate/quorate/internal/wire.LawS1539BEdges", spec := "lawS1539BEdges", stops := ["fmt.errorf"], inPlace := ["fmt.errorf", "internal/reflectlite.TypeOf"], unfollowed := true, recurses := true, named := ["example.com/quorate/quorate/internal/wire.ErrNotProtocol"], ifaces := true, apart := false, laid := [("example.com/quorate/quorate/internal/wire.ErrNotProtocol", laid_example_com_quorate_quorate_internal_wire_ErrNotProtocol)] }
/-- NO THEOREM (fmt's text is open here; it may be false): for the released tool's asking of the row's closed facts alone. THE STATEMENT IS 'LawS1539BEdgesToldSaid' (YbulkaevsFmtCards.lean). -/
def LawS1539BEdgesFormAsk : Prop := lawS1539BEdgesRow.holds Ybaf.pinned (OpenSpec.ofChange lawS1539BEdgesSpec)

/-- ITS FALSE NEIGHBOUR: 'it returns false'. Refute it at one input. -/
def lawS1539BEdgesWrong : ChangeSpec := { name := "lawS1539BEdges", vars := ["example.com/quorate/quorate/internal/wire.ErrNotProtocol"], fn := fun _ => fun
  | [d1, d2, d3, g1] => { results := [.lit (.bool false)], args := [d1, d2, d3], vars := [g1] }
  | _ => none }
def LawS1539BEdgesWrongFormAsk : Prop := lawS1539BEdgesRow.holds Ybaf.pinned (OpenSpec.ofChange lawS1539BEdgesWrong)

end Rows
end Go.Proofs.YbulkaevsFmt
