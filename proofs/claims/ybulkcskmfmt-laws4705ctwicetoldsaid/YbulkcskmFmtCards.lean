/-
  DERIVED. GIVEN WITH THE SEED: THE CARDS: each row of YbulkcskmFmtRows.lean that lists a variable, with what it lists TIED to the program's text (the seventh form; the later family's looks); each row that meets fmt, with fmt's text TOLD by the authors' own Lean function (tested against real Go, not proved from fmt's source: count such statements apart). THE CARD IS WHAT COUNTS. Prove the row's statement (the work); the ties are given (YbulkcskmFmtTie.lean); close each card by the builder's one call (the guide's Derived/Test/ToyasCard.lean, 'card_holds'). Laid BY PROGRAM, IN A SANDBOX (cutbox-door.mjs). By AI agents, Wed Nov 11 2026. No macro, syntax, notation, axiom, sorry.
-/
import Derived.Test.YbulkcskmFmtRows
import GoSem.ClaimSeven
namespace Go.Proofs.YbulkcskmFmt
namespace Rows

/-- THE TOLD CARD OF 'tallycheck.LawS4705CFresh'. -/
def lawS4705CFreshCard : Claim7 := { stood := { row := lawS4705CFreshRow, standIns := [], harness := (true, "8ca4c7c4e917009f83337edfb2d26bb6bbefe5b710154e248cc1b913d3c8f586"), looks := false }, told := true, goes := false }
def LawS4705CFreshToldSaid : Prop := Claim7.holds Ybaf.pinned (.plain (OpenSpec.ofChange lawS4705CFreshSpec)) lawS4705CFreshCard
/-- ITS FALSE NEIGHBOUR. Refute it at one input. -/
def LawS4705CFreshToldWrongFalsely : Prop := Claim7.holds Ybaf.pinned (.plain (OpenSpec.ofChange lawS4705CFreshWrong)) lawS4705CFreshCard

/-- THE TOLD CARD OF 'tallycheck.LawS4705CTwice'. -/
def lawS4705CTwiceCard : Claim7 := { stood := { row := lawS4705CTwiceRow, standIns := [], harness := (true, "8ca4c7c4e917009f83337edfb2d26bb6bbefe5b710154e248cc1b913d3c8f586"), looks := false }, told := true, goes := false }
def LawS4705CTwiceToldSaid : Prop := Claim7.holds Ybaf.pinned (.plain (OpenSpec.ofChange lawS4705CTwiceSpec)) lawS4705CTwiceCard
/-- ITS FALSE NEIGHBOUR. Refute it at one input. -/
def LawS4705CTwiceToldWrongFalsely : Prop := Claim7.holds Ybaf.pinned (.plain (OpenSpec.ofChange lawS4705CTwiceWrong)) lawS4705CTwiceCard
end Rows
end Go.Proofs.YbulkcskmFmt
