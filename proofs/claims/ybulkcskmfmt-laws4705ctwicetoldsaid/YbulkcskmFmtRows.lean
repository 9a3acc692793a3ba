/-
  No cell of these rows narrows 'for every input' (looked for: loops, veiled, ifaces, maps, wideKeys, modest, calm, conditions, laid).
  DERIVED. THE GIVEN ROWS OF THIS SEAT. 2 by the template 'for every input the law returns true; each argument reads behind the call as it read before'; 0 by the template 'total and deterministic' (their statements: YbulkcskmFmtTotals.lean).
  GIVEN WITH THE SEED: the statements are not yours to turn. If you find one false, say at which input.
  Laid BY PROGRAM, IN A SANDBOX (cutbox-rows.mjs): the forced cells as the released guide's own fill.sh prints them over the translation 29c1db3f4aed45f9… (all of the seat's roots in one cut). By AI agents, Wed Nov 11 2026. No macro, syntax, notation, axiom, sorry.
-/
import Derived.Test.YbulkcskmFmtChecked
import GoSem.Claim
import GoSem.ClaimJoined
import GoSem.ClaimMapViews
import Derived.JoinedTies
import Derived.KernelRfl
namespace Go.Proofs.YbulkcskmFmt
/- THE CELL 'sum', in the pinned program and in every row, IS THE sha256 OF THE DUMP (.gsa) THAT YbulkcskmFmtProg.lean LOADS. Nothing in Lean hashes anything: it is a label: what it is worth is what the hold of that sum in a sandbox is worth. -/
noncomputable def Ybaf.pinned : Pinned := { name := "ybulkcskmfmt", sum := "29c1db3f4aed45f909a724606f5246eb85fe13cc868965fba85ec304689f2b94", checked := Ybaf.checked }
namespace Rows
def none {H : Type} : Left H := { results := [], args := [] }

/-- 'tallycheck.LawS4705CFresh': WHATEVER THE INPUT: true; the input reads as it did. -/
def lawS4705CFreshSpec : ChangeSpec := { name := "lawS4705CFresh", fn := fun _ => fun
  | [d1, d2, d3, d4, d5] => { results := [.lit (.bool true)], args := [d1, d2, d3, d4, d5] }
  | _ => none }
def lawS4705CFreshRow : OpenClaim := { program := "ybulkcskmfmt", sum := "29c1db3f4aed45f909a724606f5246eb85fe13cc868965fba85ec304689f2b94", func := "example.com/tallycheck/tallycheck.LawS4705CFresh", spec := "lawS4705CFresh", stops := ["fmt.errorf"], inPlace := ["fmt.errorf"], unfollowed := true, recurses := true, named := ["encoding/binary.BigEndian"], apart := false }
/-- NO THEOREM (fmt's text is open here; it may be false): for the released tool's asking of the row's closed facts alone. THE STATEMENT IS 'LawS4705CFreshToldSaid' (YbulkcskmFmtCards.lean). -/
def LawS4705CFreshFormAsk : Prop := lawS4705CFreshRow.holds Ybaf.pinned (OpenSpec.ofChange lawS4705CFreshSpec)

/-- ITS FALSE NEIGHBOUR: 'it returns false'. Refute it at one input. -/
def lawS4705CFreshWrong : ChangeSpec := { name := "lawS4705CFresh", fn := fun _ => fun
  | [d1, d2, d3, d4, d5] => { results := [.lit (.bool false)], args := [d1, d2, d3, d4, d5] }
  | _ => none }
def LawS4705CFreshWrongFormAsk : Prop := lawS4705CFreshRow.holds Ybaf.pinned (OpenSpec.ofChange lawS4705CFreshWrong)

/-- 'tallycheck.LawS4705CTwice': WHATEVER THE INPUT: true; the input reads as it did. -/
def lawS4705CTwiceSpec : ChangeSpec := { name := "lawS4705CTwice", fn := fun _ => fun
  | [d1, d2, d3, d4, d5, d6] => { results := [.lit (.bool true)], args := [d1, d2, d3, d4, d5, d6] }
  | _ => none }
def lawS4705CTwiceRow : OpenClaim := { program := "ybulkcskmfmt", sum := "29c1db3f4aed45f909a724606f5246eb85fe13cc868965fba85ec304689f2b94", func := "example.com/tallycheck/tallycheck.LawS4705CTwice", spec := "lawS4705CTwice", stops := ["fmt.errorf"], inPlace := ["fmt.errorf"], unfollowed := true, recurses := true, named := ["encoding/binary.BigEndian"], apart := false }
/-- NO THEOREM (fmt's text is open here; it may be false): for the released tool's asking of the row's closed facts alone. THE STATEMENT IS 'LawS4705CTwiceToldSaid' (YbulkcskmFmtCards.lean). -/
def LawS4705CTwiceFormAsk : Prop := lawS4705CTwiceRow.holds Ybaf.pinned (OpenSpec.ofChange lawS4705CTwiceSpec)

/-- ITS FALSE NEIGHBOUR: 'it returns false'. Refute it at one input. -/
def lawS4705CTwiceWrong : ChangeSpec := { name := "lawS4705CTwice", fn := fun _ => fun
  | [d1, d2, d3, d4, d5, d6] => { results := [.lit (.bool false)], args := [d1, d2, d3, d4, d5, d6] }
  | _ => none }
def LawS4705CTwiceWrongFormAsk : Prop := lawS4705CTwiceRow.holds Ybaf.pinned (OpenSpec.ofChange lawS4705CTwiceWrong)

end Rows
end Go.Proofs.YbulkcskmFmt
