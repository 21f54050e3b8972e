/-
  No cell of these rows narrows 'for every input' (looked for: loops, veiled, ifaces, maps, wideKeys, modest, calm, conditions, laid).
  DERIVED. THE GIVEN ROWS OF THIS SEAT. 1 by the template 'for every input the law returns true; each argument reads behind the call as it read before'; 0 by the template 'total and deterministic' (their statements: YbulkzqoTotals.lean).
  GIVEN WITH THE SEED: the statements are not yours to turn. If you find one false, say at which input.
  Laid BY PROGRAM, IN A SANDBOX (cutbox-rows.mjs): the forced cells as the released guide's own fill.sh prints them over the translation 5ed873ffc39382bd… (all of the seat's roots in one cut). By AI agents, Wed Nov 11 2026. No macro, syntax, notation, axiom, sorry.
-/
import Derived.Test.YbulkzqoChecked
import GoSem.Claim
import GoSem.ClaimJoined
import GoSem.ClaimMapViews
import Derived.JoinedTies
import Derived.KernelRfl
namespace Go.Proofs.Ybulkzqo
/- THE CELL 'sum', in the pinned program and in every row, IS THE sha256 OF THE DUMP (.gsa) THAT YbulkzqoProg.lean LOADS. Nothing in Lean hashes anything: it is a label: what it is worth is what the hold of that sum in a sandbox is worth. -/
noncomputable def Yba.pinned : Pinned := { name := "ybulkzqo", sum := "5ed873ffc39382bd044e5ff3b75d1e96628b9f2c5d0b22ef36f7be14a4bd5399", checked := Yba.checked }
namespace Rows
def none {H : Type} : Left H := { results := [], args := [] }

/-- 'ringfinger.LawS1288AExact': WHATEVER THE INPUT: true; the input reads as it did. -/
def lawS1288AExactSpec : ChangeSpec := { name := "lawS1288AExact", fn := fun _ => fun
  | [d1, d2, d3] => { results := [.lit (.bool true)], args := [d1, d2, d3] }
  | _ => none }
def lawS1288AExactRow : OpenClaim := { program := "ybulkzqo", sum := "5ed873ffc39382bd044e5ff3b75d1e96628b9f2c5d0b22ef36f7be14a4bd5399", func := "example.com/ringfinger/ringfinger.LawS1288AExact", spec := "lawS1288AExact", apart := false }
def LawS1288AExactSaid : Prop := lawS1288AExactRow.holds Yba.pinned (OpenSpec.ofChange lawS1288AExactSpec)

/-- ITS FALSE NEIGHBOUR: 'it returns false'. Refute it at one input. -/
def lawS1288AExactWrong : ChangeSpec := { name := "lawS1288AExact", fn := fun _ => fun
  | [d1, d2, d3] => { results := [.lit (.bool false)], args := [d1, d2, d3] }
  | _ => none }
def LawS1288AExactWrongFalsely : Prop := lawS1288AExactRow.holds Yba.pinned (OpenSpec.ofChange lawS1288AExactWrong)

end Rows
end Go.Proofs.Ybulkzqo
