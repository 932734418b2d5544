/-
  No cell of these rows narrows 'for every input' (looked for: loops, veiled, ifaces, maps, wideKeys, modest, calm, conditions, laid).
  DERIVED. THE GIVEN ROWS OF THIS SEAT. 2 by the template 'for every input the law returns true; each argument reads behind the call as it read before'; 0 by the template 'total and deterministic' (their statements: YbulkaeqiTotals.lean).
  GIVEN WITH THE SEED: the statements are not yours to turn. If you find one false, say at which input.
  Laid BY PROGRAM, IN A SANDBOX (cutbox-rows.mjs): the forced cells as the released guide's own fill.sh prints them over the translation c6afa9af801a6b82… (all of the seat's roots in one cut). By AI agents, Wed Nov 11 2026. No macro, syntax, notation, axiom, sorry.
-/
import Derived.Test.YbulkaeqiChecked
import GoSem.Claim
import GoSem.ClaimJoined
import GoSem.ClaimMapViews
import Derived.JoinedTies
import Derived.KernelRfl
namespace Go.Proofs.Ybulkaeqi
/- THE CELL 'sum', in the pinned program and in every row, IS THE sha256 OF THE DUMP (.gsa) THAT YbulkaeqiProg.lean LOADS. Nothing in Lean hashes anything: it is a label: what it is worth is what the hold of that sum in a sandbox is worth. -/
noncomputable def Yba.pinned : Pinned := { name := "ybulkaeqi", sum := "c6afa9af801a6b821bf4ae7a9e67066ccbc1adeecf87637fbb8fcd4be6cc452e", checked := Yba.checked }
namespace Rows
def none {H : Type} : Left H := { results := [], args := [] }

/-- 'overlay.LawS1529AToOrigin': WHATEVER THE INPUT: true; the input reads as it did. -/
def lawS1529AToOriginSpec : ChangeSpec := { name := "lawS1529AToOrigin", fn := fun _ => fun
  | [d1, d2, d3, d4, d5, d6, d7] => { results := [.lit (.bool true)], args := [d1, d2, d3, d4, d5, d6, d7] }
  | _ => none }
def lawS1529AToOriginRow : OpenClaim := { program := "ybulkaeqi", sum := "c6afa9af801a6b821bf4ae7a9e67066ccbc1adeecf87637fbb8fcd4be6cc452e", func := "example.com/nearloom/nearloom/pkg/overlay.LawS1529AToOrigin", spec := "lawS1529AToOrigin", unfollowed := true, recurses := true, plainKeys := false, apart := false }
def LawS1529AToOriginSaid : Prop := lawS1529AToOriginRow.holds Yba.pinned (OpenSpec.ofChange lawS1529AToOriginSpec)

/-- ITS FALSE NEIGHBOUR: 'it returns false'. Refute it at one input. -/
def lawS1529AToOriginWrong : ChangeSpec := { name := "lawS1529AToOrigin", fn := fun _ => fun
  | [d1, d2, d3, d4, d5, d6, d7] => { results := [.lit (.bool false)], args := [d1, d2, d3, d4, d5, d6, d7] }
  | _ => none }
def LawS1529AToOriginWrongFalsely : Prop := lawS1529AToOriginRow.holds Yba.pinned (OpenSpec.ofChange lawS1529AToOriginWrong)

/-- 'overlay.LawS1529AAtOrigin': WHATEVER THE INPUT: true; the input reads as it did. -/
def lawS1529AAtOriginSpec : ChangeSpec := { name := "lawS1529AAtOrigin", fn := fun _ => fun
  | [d1, d2, d3, d4, d5, d6, d7, d8, d9, d10] => { results := [.lit (.bool true)], args := [d1, d2, d3, d4, d5, d6, d7, d8, d9, d10] }
  | _ => none }
def lawS1529AAtOriginRow : OpenClaim := { program := "ybulkaeqi", sum := "c6afa9af801a6b821bf4ae7a9e67066ccbc1adeecf87637fbb8fcd4be6cc452e", func := "example.com/nearloom/nearloom/pkg/overlay.LawS1529AAtOrigin", spec := "lawS1529AAtOrigin", unfollowed := true, recurses := true, plainKeys := false, apart := false }
def LawS1529AAtOriginSaid : Prop := lawS1529AAtOriginRow.holds Yba.pinned (OpenSpec.ofChange lawS1529AAtOriginSpec)

/-- ITS FALSE NEIGHBOUR: 'it returns false'. Refute it at one input. -/
def lawS1529AAtOriginWrong : ChangeSpec := { name := "lawS1529AAtOrigin", fn := fun _ => fun
  | [d1, d2, d3, d4, d5, d6, d7, d8, d9, d10] => { results := [.lit (.bool false)], args := [d1, d2, d3, d4, d5, d6, d7, d8, d9, d10] }
  | _ => none }
def LawS1529AAtOriginWrongFalsely : Prop := lawS1529AAtOriginRow.holds Yba.pinned (OpenSpec.ofChange lawS1529AAtOriginWrong)

end Rows
end Go.Proofs.Ybulkaeqi
