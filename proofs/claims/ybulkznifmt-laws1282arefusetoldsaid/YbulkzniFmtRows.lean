/-
  No cell of these rows narrows 'for every input' (looked for: loops, veiled, ifaces, maps, wideKeys, modest, calm, conditions, laid).
  DERIVED. THE GIVEN ROWS OF THIS SEAT. 1 by the template 'for every input the law returns true; each argument reads behind the call as it read before'; 0 by the template 'total and deterministic' (their statements: YbulkzniFmtTotals.lean).
  GIVEN WITH THE SEED: the statements are not yours to turn. If you find one false, say at which input.
  Laid BY PROGRAM, IN A SANDBOX (cutbox-rows.mjs): the forced cells as the released guide's own fill.sh prints them over the translation eeb0a541d792f355… (all of the seat's roots in one cut). By AI agents, Wed Nov 11 2026. No macro, syntax, notation, axiom, sorry.
-/
import Derived.Test.YbulkzniFmtChecked
import GoSem.Claim
import GoSem.ClaimJoined
import GoSem.ClaimMapViews
import Derived.JoinedTies
import Derived.KernelRfl
namespace Go.Proofs.YbulkzniFmt
/- THE CELL 'sum', in the pinned program and in every row, IS THE sha256 OF THE DUMP (.gsa) THAT YbulkzniFmtProg.lean LOADS. Nothing in Lean hashes anything: it is a label: what it is worth is what the hold of that sum in a sandbox is worth. -/
noncomputable def Ybaf.pinned : Pinned := { name := "ybulkznifmt", sum := "eeb0a541d792f355219500320b797f189acabdb8ba5a3574834f3e1e9d305f49", checked := Ybaf.checked }
namespace Rows
def none {H : Type} : Left H := { results := [], args := [] }

/-- 'service.LawS1282ARefuse': WHATEVER THE INPUT: true; the input reads as it did. -/
def lawS1282ARefuseSpec : ChangeSpec := { name := "lawS1282ARefuse", fn := fun _ => fun
  | [d1, d2, d3] => { results := [.lit (.bool true)], args := [d1, d2, d3] }
  | _ => none }
def lawS1282ARefuseRow : OpenClaim := { program := "ybulkznifmt", sum := "eeb0a541d792f355219500320b797f189acabdb8ba5a3574834f3e1e9d305f49", func := "example.com/namecard/namecard/pkg/service.LawS1282ARefuse", spec := "lawS1282ARefuse", stops := ["fmt.Sprintf"], inPlace := ["sync/atomic.AddUint64", "fmt.Sprintf"], apart := false }
/-- NO THEOREM (fmt's text is open here; it may be false): for the released tool's asking of the row's closed facts alone. THE STATEMENT IS 'LawS1282ARefuseToldSaid' (YbulkzniFmtCards.lean). -/
def LawS1282ARefuseFormAsk : Prop := lawS1282ARefuseRow.holds Ybaf.pinned (OpenSpec.ofChange lawS1282ARefuseSpec)

/-- ITS FALSE NEIGHBOUR: 'it returns false'. Refute it at one input. -/
def lawS1282ARefuseWrong : ChangeSpec := { name := "lawS1282ARefuse", fn := fun _ => fun
  | [d1, d2, d3] => { results := [.lit (.bool false)], args := [d1, d2, d3] }
  | _ => none }
def LawS1282ARefuseWrongFormAsk : Prop := lawS1282ARefuseRow.holds Ybaf.pinned (OpenSpec.ofChange lawS1282ARefuseWrong)

end Rows
end Go.Proofs.YbulkzniFmt
