/-
  No cell of these rows narrows 'for every input' (looked for: loops, veiled, ifaces, maps, wideKeys, modest, calm, conditions, laid).
  DERIVED. THE GIVEN ROWS OF THIS SEAT. 2 by the template 'for every input the law returns true; each argument reads behind the call as it read before'; 0 by the template 'total and deterministic' (their statements: YbulkzniTotals.lean).
  GIVEN WITH THE SEED: the statements are not yours to turn. If you find one false, say at which input.
  Laid BY PROGRAM, IN A SANDBOX (cutbox-rows.mjs): the forced cells as the released guide's own fill.sh prints them over the translation 679ad4f9ac814927… (all of the seat's roots in one cut). By AI agents, Wed Nov 11 2026. No macro, syntax, notation, axiom, sorry.
-/
import Derived.Test.YbulkzniChecked
import GoSem.Claim
import GoSem.ClaimJoined
import GoSem.ClaimMapViews
import Derived.JoinedTies
import Derived.KernelRfl
namespace Go.Proofs.Ybulkzni
/- THE CELL 'sum', in the pinned program and in every row, IS THE sha256 OF THE DUMP (.gsa) THAT YbulkzniProg.lean LOADS. Nothing in Lean hashes anything: it is a label: what it is worth is what the hold of that sum in a sandbox is worth. -/
noncomputable def Yba.pinned : Pinned := { name := "ybulkzni", sum := "679ad4f9ac81492722b8c76e53fa325a4cb30da344daa9715dda771bfa17de28", checked := Yba.checked }
namespace Rows
def none {H : Type} : Left H := { results := [], args := [] }

/-- 'epp.LawS1282CExact': WHATEVER THE INPUT: true; the input reads as it did. -/
def lawS1282CExactSpec : ChangeSpec := { name := "lawS1282CExact", fn := fun _ => fun
  | [d1, d2] => { results := [.lit (.bool true)], args := [d1, d2] }
  | _ => none }
def lawS1282CExactRow : OpenClaim := { program := "ybulkzni", sum := "679ad4f9ac81492722b8c76e53fa325a4cb30da344daa9715dda771bfa17de28", func := "example.com/namecard/namecard/pkg/epp.LawS1282CExact", spec := "lawS1282CExact", apart := false }
def LawS1282CExactSaid : Prop := lawS1282CExactRow.holds Yba.pinned (OpenSpec.ofChange lawS1282CExactSpec)

/-- ITS FALSE NEIGHBOUR: 'it returns false'. Refute it at one input. -/
def lawS1282CExactWrong : ChangeSpec := { name := "lawS1282CExact", fn := fun _ => fun
  | [d1, d2] => { results := [.lit (.bool false)], args := [d1, d2] }
  | _ => none }
def LawS1282CExactWrongFalsely : Prop := lawS1282CExactRow.holds Yba.pinned (OpenSpec.ofChange lawS1282CExactWrong)

/-- 'epp.LawS1282CLocal': WHATEVER THE INPUT: true; the input reads as it did. -/
def lawS1282CLocalSpec : ChangeSpec := { name := "lawS1282CLocal", fn := fun _ => fun
  | [d1, d2, d3] => { results := [.lit (.bool true)], args := [d1, d2, d3] }
  | _ => none }
def lawS1282CLocalRow : OpenClaim := { program := "ybulkzni", sum := "679ad4f9ac81492722b8c76e53fa325a4cb30da344daa9715dda771bfa17de28", func := "example.com/namecard/namecard/pkg/epp.LawS1282CLocal", spec := "lawS1282CLocal", apart := false }
def LawS1282CLocalSaid : Prop := lawS1282CLocalRow.holds Yba.pinned (OpenSpec.ofChange lawS1282CLocalSpec)

/-- ITS FALSE NEIGHBOUR: 'it returns false'. Refute it at one input. -/
def lawS1282CLocalWrong : ChangeSpec := { name := "lawS1282CLocal", fn := fun _ => fun
  | [d1, d2, d3] => { results := [.lit (.bool false)], args := [d1, d2, d3] }
  | _ => none }
def LawS1282CLocalWrongFalsely : Prop := lawS1282CLocalRow.holds Yba.pinned (OpenSpec.ofChange lawS1282CLocalWrong)

end Rows
end Go.Proofs.Ybulkzni
