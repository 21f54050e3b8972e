/-
  No cell of these rows narrows 'for every input' (looked for: loops, veiled, ifaces, maps, wideKeys, modest, calm, conditions, laid).
  DERIVED. THE GIVEN ROWS OF THIS SEAT. 4 by the template 'for every input the law returns true; each argument reads behind the call as it read before'; 0 by the template 'total and deterministic' (their statements: YbulkzokTotals.lean).
  GIVEN WITH THE SEED: the statements are not yours to turn. If you find one false, say at which input.
  Laid BY PROGRAM, IN A SANDBOX (cutbox-rows.mjs): the forced cells as the released guide's own fill.sh prints them over the translation 447ce27c252160b1… (all of the seat's roots in one cut). By AI agents, Wed Nov 11 2026. No macro, syntax, notation, axiom, sorry.
-/
import Derived.Test.YbulkzokChecked
import GoSem.Claim
import GoSem.ClaimJoined
import GoSem.ClaimMapViews
import Derived.JoinedTies
import Derived.KernelRfl
namespace Go.Proofs.Ybulkzok
/- THE CELL 'sum', in the pinned program and in every row, IS THE sha256 OF THE DUMP (.gsa) THAT YbulkzokProg.lean LOADS. Nothing in Lean hashes anything: it is a label: what it is worth is what the hold of that sum in a sandbox is worth. -/
noncomputable def Yba.pinned : Pinned := { name := "ybulkzok", sum := "447ce27c252160b11ec1a5e59aa3d0c3bceb75f9b23914c635b92ed7165b66a3", checked := Yba.checked }
namespace Rows
def none {H : Type} : Left H := { results := [], args := [] }

/-- 'grayce.LawS1284AHid': WHATEVER THE INPUT: true; the input reads as it did. -/
def lawS1284AHidSpec : ChangeSpec := { name := "lawS1284AHid", fn := fun _ => fun
  | [d1, d2, d3] => { results := [.lit (.bool true)], args := [d1, d2, d3] }
  | _ => none }
def lawS1284AHidRow : OpenClaim := { program := "ybulkzok", sum := "447ce27c252160b11ec1a5e59aa3d0c3bceb75f9b23914c635b92ed7165b66a3", func := "example.com/grayce/grayce.LawS1284AHid", spec := "lawS1284AHid", apart := false }
def LawS1284AHidSaid : Prop := lawS1284AHidRow.holds Yba.pinned (OpenSpec.ofChange lawS1284AHidSpec)

/-- ITS FALSE NEIGHBOUR: 'it returns false'. Refute it at one input. -/
def lawS1284AHidWrong : ChangeSpec := { name := "lawS1284AHid", fn := fun _ => fun
  | [d1, d2, d3] => { results := [.lit (.bool false)], args := [d1, d2, d3] }
  | _ => none }
def LawS1284AHidWrongFalsely : Prop := lawS1284AHidRow.holds Yba.pinned (OpenSpec.ofChange lawS1284AHidWrong)

/-- 'grayce.LawS1284AKept': WHATEVER THE INPUT: true; the input reads as it did. -/
def lawS1284AKeptSpec : ChangeSpec := { name := "lawS1284AKept", fn := fun _ => fun
  | [d1, d2, d3] => { results := [.lit (.bool true)], args := [d1, d2, d3] }
  | _ => none }
def lawS1284AKeptRow : OpenClaim := { program := "ybulkzok", sum := "447ce27c252160b11ec1a5e59aa3d0c3bceb75f9b23914c635b92ed7165b66a3", func := "example.com/grayce/grayce.LawS1284AKept", spec := "lawS1284AKept", apart := false }
def LawS1284AKeptSaid : Prop := lawS1284AKeptRow.holds Yba.pinned (OpenSpec.ofChange lawS1284AKeptSpec)

/-- ITS FALSE NEIGHBOUR: 'it returns false'. Refute it at one input. -/
def lawS1284AKeptWrong : ChangeSpec := { name := "lawS1284AKept", fn := fun _ => fun
  | [d1, d2, d3] => { results := [.lit (.bool false)], args := [d1, d2, d3] }
  | _ => none }
def LawS1284AKeptWrongFalsely : Prop := lawS1284AKeptRow.holds Yba.pinned (OpenSpec.ofChange lawS1284AKeptWrong)

/-- 'grayce.LawS1284CAxis': WHATEVER THE INPUT: true; the input reads as it did. -/
def lawS1284CAxisSpec : ChangeSpec := { name := "lawS1284CAxis", fn := fun _ => fun
  | [d1, d2, d3, d4, d5, d6] => { results := [.lit (.bool true)], args := [d1, d2, d3, d4, d5, d6] }
  | _ => none }
def lawS1284CAxisRow : OpenClaim := { program := "ybulkzok", sum := "447ce27c252160b11ec1a5e59aa3d0c3bceb75f9b23914c635b92ed7165b66a3", func := "example.com/grayce/grayce.LawS1284CAxis", spec := "lawS1284CAxis", inPlace := ["math.Float64bits", "math.Float64frombits"], apart := false }
def LawS1284CAxisSaid : Prop := lawS1284CAxisRow.holds Yba.pinned (OpenSpec.ofChange lawS1284CAxisSpec)

/-- ITS FALSE NEIGHBOUR: 'it returns false'. Refute it at one input. -/
def lawS1284CAxisWrong : ChangeSpec := { name := "lawS1284CAxis", fn := fun _ => fun
  | [d1, d2, d3, d4, d5, d6] => { results := [.lit (.bool false)], args := [d1, d2, d3, d4, d5, d6] }
  | _ => none }
def LawS1284CAxisWrongFalsely : Prop := lawS1284CAxisRow.holds Yba.pinned (OpenSpec.ofChange lawS1284CAxisWrong)

/-- 'grayce.LawS1284CAny': WHATEVER THE INPUT: true; the input reads as it did. -/
def lawS1284CAnySpec : ChangeSpec := { name := "lawS1284CAny", fn := fun _ => fun
  | [d1, d2, d3, d4, d5, d6, d7, d8, d9, d10, d11] => { results := [.lit (.bool true)], args := [d1, d2, d3, d4, d5, d6, d7, d8, d9, d10, d11] }
  | _ => none }
def lawS1284CAnyRow : OpenClaim := { program := "ybulkzok", sum := "447ce27c252160b11ec1a5e59aa3d0c3bceb75f9b23914c635b92ed7165b66a3", func := "example.com/grayce/grayce.LawS1284CAny", spec := "lawS1284CAny", inPlace := ["math.Float64bits", "math.Float64frombits"], apart := false }
def LawS1284CAnySaid : Prop := lawS1284CAnyRow.holds Yba.pinned (OpenSpec.ofChange lawS1284CAnySpec)

/-- ITS FALSE NEIGHBOUR: 'it returns false'. Refute it at one input. -/
def lawS1284CAnyWrong : ChangeSpec := { name := "lawS1284CAny", fn := fun _ => fun
  | [d1, d2, d3, d4, d5, d6, d7, d8, d9, d10, d11] => { results := [.lit (.bool false)], args := [d1, d2, d3, d4, d5, d6, d7, d8, d9, d10, d11] }
  | _ => none }
def LawS1284CAnyWrongFalsely : Prop := lawS1284CAnyRow.holds Yba.pinned (OpenSpec.ofChange lawS1284CAnyWrong)

end Rows
end Go.Proofs.Ybulkzok
