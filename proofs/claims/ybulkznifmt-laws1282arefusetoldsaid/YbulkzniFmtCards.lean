/-
  DERIVED. GIVEN WITH THE SEED: THE CARDS: each row of YbulkzniFmtRows.lean that lists a variable, with what it lists TIED to the program's text (the seventh form; the later family's looks); each row that meets fmt, with fmt's text TOLD by the authors' own Lean function (tested against real Go, not proved from fmt's source: count such statements apart). THE CARD IS WHAT COUNTS. Prove the row's statement (the work); the ties are given (YbulkzniFmtTie.lean); close each card by the builder's one call (the guide's Derived/Test/ToyasCard.lean, 'card_holds'). Laid BY PROGRAM, IN A SANDBOX (cutbox-door.mjs). By AI agents, Wed Nov 11 2026. No macro, syntax, notation, axiom, sorry.
-/
import Derived.Test.YbulkzniFmtRows
import GoSem.ClaimSeven
namespace Go.Proofs.YbulkzniFmt
namespace Rows

/-- THE TOLD CARD OF 'service.LawS1282ARefuse'. -/
def lawS1282ARefuseCard : Claim7 := { stood := { row := lawS1282ARefuseRow, standIns := [], harness := (true, "b4104ce89e5fd4bbe875a7789e1501782d047b3edb0b8015dbf4ce1f6d996331"), looks := false }, told := true, goes := false }
def LawS1282ARefuseToldSaid : Prop := Claim7.holds Ybaf.pinned (.plain (OpenSpec.ofChange lawS1282ARefuseSpec)) lawS1282ARefuseCard
/-- ITS FALSE NEIGHBOUR. Refute it at one input. -/
def LawS1282ARefuseToldWrongFalsely : Prop := Claim7.holds Ybaf.pinned (.plain (OpenSpec.ofChange lawS1282ARefuseWrong)) lawS1282ARefuseCard
end Rows
end Go.Proofs.YbulkzniFmt
