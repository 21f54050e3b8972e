/-
  No cell of these rows narrows 'for every input' (looked for: loops, veiled, ifaces, maps, wideKeys, modest, calm, conditions, laid).
  DERIVED. THE GIVEN ROWS OF THIS SEAT. 2 by the template 'for every input the law returns true; each argument reads behind the call as it read before'; 0 by the template 'total and deterministic' (their statements: YbulkzqaTotals.lean).
  GIVEN WITH THE SEED: the statements are not yours to turn. If you find one false, say at which input.
  Laid BY PROGRAM, IN A SANDBOX (cutbox-rows.mjs): the forced cells as the released guide's own fill.sh prints them over the translation 75297e83add990ed… (all of the seat's roots in one cut). By AI agents, Wed Nov 11 2026. No macro, syntax, notation, axiom, sorry.
-/
import Derived.Test.YbulkzqaChecked
import GoSem.Claim
import GoSem.ClaimJoined
import GoSem.ClaimMapViews
import Derived.JoinedTies
import Derived.KernelRfl
namespace Go.Proofs.Ybulkzqa
/- THE CELL 'sum', in the pinned program and in every row, IS THE sha256 OF THE DUMP (.gsa) THAT YbulkzqaProg.lean LOADS. Nothing in Lean hashes anything: it is a label: what it is worth is what the hold of that sum in a sandbox is worth. -/
noncomputable def Yba.pinned : Pinned := { name := "ybulkzqa", sum := "75297e83add990edebb7db7583dfa82933abb43567e8ed48ef4c601c70758d0a", checked := Yba.checked }
namespace Rows
def none {H : Type} : Left H := { results := [], args := [] }

/-- 'smt.LawS1287CExact': WHATEVER THE INPUT: true; the input reads as it did. -/
def lawS1287CExactSpec : ChangeSpec := { name := "lawS1287CExact", fn := fun _ => fun
  | [d] => { results := [.lit (.bool true)], args := [d] }
  | _ => none }
def lawS1287CExactRow : OpenClaim := { program := "ybulkzqa", sum := "75297e83add990edebb7db7583dfa82933abb43567e8ed48ef4c601c70758d0a", func := "example.com/revoleaf/revoleaf/internal/smt.LawS1287CExact", spec := "lawS1287CExact", apart := false }
def LawS1287CExactSaid : Prop := lawS1287CExactRow.holds Yba.pinned (OpenSpec.ofChange lawS1287CExactSpec)

/-- ITS FALSE NEIGHBOUR: 'it returns false'. Refute it at one input. -/
def lawS1287CExactWrong : ChangeSpec := { name := "lawS1287CExact", fn := fun _ => fun
  | [d] => { results := [.lit (.bool false)], args := [d] }
  | _ => none }
def LawS1287CExactWrongFalsely : Prop := lawS1287CExactRow.holds Yba.pinned (OpenSpec.ofChange lawS1287CExactWrong)

/-- 'smt.LawS1287CRoundTrip': WHATEVER THE INPUT: true; the input reads as it did. -/
def lawS1287CRoundTripSpec : ChangeSpec := { name := "lawS1287CRoundTrip", fn := fun _ => fun
  | [d1, d2, d3, d4] => { results := [.lit (.bool true)], args := [d1, d2, d3, d4] }
  | _ => none }
def lawS1287CRoundTripRow : OpenClaim := { program := "ybulkzqa", sum := "75297e83add990edebb7db7583dfa82933abb43567e8ed48ef4c601c70758d0a", func := "example.com/revoleaf/revoleaf/internal/smt.LawS1287CRoundTrip", spec := "lawS1287CRoundTrip", apart := false }
def LawS1287CRoundTripSaid : Prop := lawS1287CRoundTripRow.holds Yba.pinned (OpenSpec.ofChange lawS1287CRoundTripSpec)

/-- ITS FALSE NEIGHBOUR: 'it returns false'. Refute it at one input. -/
def lawS1287CRoundTripWrong : ChangeSpec := { name := "lawS1287CRoundTrip", fn := fun _ => fun
  | [d1, d2, d3, d4] => { results := [.lit (.bool false)], args := [d1, d2, d3, d4] }
  | _ => none }
def LawS1287CRoundTripWrongFalsely : Prop := lawS1287CRoundTripRow.holds Yba.pinned (OpenSpec.ofChange lawS1287CRoundTripWrong)

end Rows
end Go.Proofs.Ybulkzqa
