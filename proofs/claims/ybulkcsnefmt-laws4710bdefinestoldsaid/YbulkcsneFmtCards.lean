/-
  DERIVED. GIVEN WITH THE SEED: THE CARDS: each row of YbulkcsneFmtRows.lean that lists a variable, with what it lists TIED to the program's text (the seventh form; the later family's looks); each row that meets fmt, with fmt's text TOLD by the authors' own Lean function (tested against real Go, not proved from fmt's source: count such statements apart). THE CARD IS WHAT COUNTS. Prove the row's statement (the work); the ties are given (YbulkcsneFmtTie.lean); close each card by the builder's one call (the guide's Derived/Test/ToyasCard.lean, 'card_holds'). Laid BY PROGRAM, IN A SANDBOX (cutbox-door.mjs). By AI agents, Wed Nov 11 2026. No macro, syntax, notation, axiom, sorry.
-/
import Derived.Test.YbulkcsneFmtRows
import GoSem.ClaimSeven
namespace Go.Proofs.YbulkcsneFmt
namespace Rows

/-- THE TOLD CARD OF 'getopt.LawS4710BDefines'. -/
def lawS4710BDefinesCard : Claim7 := { stood := { row := lawS4710BDefinesRow, standIns := [], harness := (true, "006ce80ff357280f09b4af34882e0bf6f560ebb91621afb30dbc8af00a1e5ade"), looks := false }, told := true, goes := false }
def LawS4710BDefinesToldSaid : Prop := Claim7.holds Ybaf.pinned (.plain (OpenSpec.ofChange lawS4710BDefinesSpec)) lawS4710BDefinesCard
/-- ITS FALSE NEIGHBOUR. Refute it at one input. -/
def LawS4710BDefinesToldWrongFalsely : Prop := Claim7.holds Ybaf.pinned (.plain (OpenSpec.ofChange lawS4710BDefinesWrong)) lawS4710BDefinesCard

/-- THE TOLD AND TIED CARD OF 'getopt.LawS4710BParse'. -/
def lawS4710BParseCard : Claim7 := { stood := { row := lawS4710BParseRow, standIns := [], harness := (true, "006ce80ff357280f09b4af34882e0bf6f560ebb91621afb30dbc8af00a1e5ade"), looks := false }, told := true, laidByText := true, laidKinds := [.data, .sentinel, .pinned], laidTests := true, laidLooks := .later, goes := false }
def LawS4710BParseToldSaid : Prop := Claim7.holds Ybaf.pinned (.plain (OpenSpec.ofChange lawS4710BParseSpec)) lawS4710BParseCard
/-- ITS FALSE NEIGHBOUR. Refute it at one input. -/
def LawS4710BParseToldWrongFalsely : Prop := Claim7.holds Ybaf.pinned (.plain (OpenSpec.ofChange lawS4710BParseWrong)) lawS4710BParseCard

/-- THE TOLD CARD OF 'getopt.LawS4710CDefine'. -/
def lawS4710CDefineCard : Claim7 := { stood := { row := lawS4710CDefineRow, standIns := [], harness := (true, "006ce80ff357280f09b4af34882e0bf6f560ebb91621afb30dbc8af00a1e5ade"), looks := false }, told := true, goes := false }
def LawS4710CDefineToldSaid : Prop := Claim7.holds Ybaf.pinned (.plain (OpenSpec.ofChange lawS4710CDefineSpec)) lawS4710CDefineCard
/-- ITS FALSE NEIGHBOUR. Refute it at one input. -/
def LawS4710CDefineToldWrongFalsely : Prop := Claim7.holds Ybaf.pinned (.plain (OpenSpec.ofChange lawS4710CDefineWrong)) lawS4710CDefineCard

/-- THE TOLD AND TIED CARD OF 'getopt.LawS4710CParse'. -/
def lawS4710CParseCard : Claim7 := { stood := { row := lawS4710CParseRow, standIns := [], harness := (true, "006ce80ff357280f09b4af34882e0bf6f560ebb91621afb30dbc8af00a1e5ade"), looks := false }, told := true, laidByText := true, laidKinds := [.data, .sentinel, .pinned], laidTests := true, laidLooks := .later, goes := false }
def LawS4710CParseToldSaid : Prop := Claim7.holds Ybaf.pinned (.plain (OpenSpec.ofChange lawS4710CParseSpec)) lawS4710CParseCard
/-- ITS FALSE NEIGHBOUR. Refute it at one input. -/
def LawS4710CParseToldWrongFalsely : Prop := Claim7.holds Ybaf.pinned (.plain (OpenSpec.ofChange lawS4710CParseWrong)) lawS4710CParseCard
end Rows
end Go.Proofs.YbulkcsneFmt
