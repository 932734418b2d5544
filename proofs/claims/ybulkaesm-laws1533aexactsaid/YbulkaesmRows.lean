/-
  No cell of these rows narrows 'for every input' (looked for: loops, veiled, ifaces, maps, wideKeys, modest, calm, conditions, laid).
  DERIVED. THE GIVEN ROWS OF THIS SEAT. 1 by the template 'for every input the law returns true; each argument reads behind the call as it read before'; 0 by the template 'total and deterministic' (their statements: YbulkaesmTotals.lean).
  GIVEN WITH THE SEED: the statements are not yours to turn. If you find one false, say at which input.
  Laid BY PROGRAM, IN A SANDBOX (cutbox-rows.mjs): the forced cells as the released guide's own fill.sh prints them over the translation 40e3cf21c80334ef… (all of the seat's roots in one cut). By AI agents, Wed Nov 11 2026. No macro, syntax, notation, axiom, sorry.
-/
import Derived.Test.YbulkaesmChecked
import GoSem.Claim
import GoSem.ClaimJoined
import GoSem.ClaimMapViews
import Derived.JoinedTies
import Derived.KernelRfl
namespace Go.Proofs.Ybulkaesm
/- THE CELL 'sum', in the pinned program and in every row, IS THE sha256 OF THE DUMP (.gsa) THAT YbulkaesmProg.lean LOADS. Nothing in Lean hashes anything: it is a label: what it is worth is what the hold of that sum in a sandbox is worth. -/
noncomputable def Yba.pinned : Pinned := { name := "ybulkaesm", sum := "40e3cf21c80334ef26a19cb18a5f48013ee72857be4d00d6c567b86de87ede82", checked := Yba.checked }
namespace Rows
def none {H : Type} : Left H := { results := [], args := [] }

/-- 'sim.LawS1533AExact': WHATEVER THE INPUT: true; the input reads as it did. -/
def lawS1533AExactSpec : ChangeSpec := { name := "lawS1533AExact", fn := fun _ => fun
  | [d1, d2, d3] => { results := [.lit (.bool true)], args := [d1, d2, d3] }
  | _ => none }
def lawS1533AExactRow : OpenClaim := { program := "ybulkaesm", sum := "40e3cf21c80334ef26a19cb18a5f48013ee72857be4d00d6c567b86de87ede82", func := "example.com/term/term/internal/sim.LawS1533AExact", spec := "lawS1533AExact", apart := false }
def LawS1533AExactSaid : Prop := lawS1533AExactRow.holds Yba.pinned (OpenSpec.ofChange lawS1533AExactSpec)

/-- ITS FALSE NEIGHBOUR: 'it returns false'. Refute it at one input. -/
def lawS1533AExactWrong : ChangeSpec := { name := "lawS1533AExact", fn := fun _ => fun
  | [d1, d2, d3] => { results := [.lit (.bool false)], args := [d1, d2, d3] }
  | _ => none }
def LawS1533AExactWrongFalsely : Prop := lawS1533AExactRow.holds Yba.pinned (OpenSpec.ofChange lawS1533AExactWrong)

end Rows
end Go.Proofs.Ybulkaesm
