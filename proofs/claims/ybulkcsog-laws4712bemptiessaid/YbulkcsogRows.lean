/-
  No cell of these rows narrows 'for every input' (looked for: loops, veiled, ifaces, maps, wideKeys, modest, calm, conditions, laid).
  DERIVED. THE GIVEN ROWS OF THIS SEAT. 3 by the template 'for every input the law returns true; each argument reads behind the call as it read before'; 0 by the template 'total and deterministic' (their statements: YbulkcsogTotals.lean).
  GIVEN WITH THE SEED: the statements are not yours to turn. If you find one false, say at which input.
  Laid BY PROGRAM, IN A SANDBOX (cutbox-rows.mjs): the forced cells as the released guide's own fill.sh prints them over the translation bb3b99e5e6ae8b80… (all of the seat's roots in one cut). By AI agents, Wed Nov 11 2026. No macro, syntax, notation, axiom, sorry.
-/
import Derived.Test.YbulkcsogChecked
import GoSem.Claim
import GoSem.ClaimJoined
import GoSem.ClaimMapViews
import Derived.JoinedTies
import Derived.KernelRfl
namespace Go.Proofs.Ybulkcsog
/- THE CELL 'sum', in the pinned program and in every row, IS THE sha256 OF THE DUMP (.gsa) THAT YbulkcsogProg.lean LOADS. Nothing in Lean hashes anything: it is a label: what it is worth is what the hold of that sum in a sandbox is worth. -/
noncomputable def Yba.pinned : Pinned := { name := "ybulkcsog", sum := "bb3b99e5e6ae8b80811ab2ae544f333a15952e83d4813fa93ebc2bebc9be7ea2", checked := Yba.checked }
namespace Rows
def none {H : Type} : Left H := { results := [], args := [] }

/-- 'zoneweave.LawS4712AReply': WHATEVER THE INPUT: true; the input reads as it did. -/
def lawS4712AReplySpec : ChangeSpec := { name := "lawS4712AReply", fn := fun _ => fun
  | [d1, d2, d3, d4, d5, d6, d7] => { results := [.lit (.bool true)], args := [d1, d2, d3, d4, d5, d6, d7] }
  | _ => none }
def lawS4712AReplyRow : OpenClaim := { program := "ybulkcsog", sum := "bb3b99e5e6ae8b80811ab2ae544f333a15952e83d4813fa93ebc2bebc9be7ea2", func := "example.com/zoneweave/zoneweave.LawS4712AReply", spec := "lawS4712AReply", inPlace := ["math.Float64bits"], unfollowed := true, recurses := true, plainKeys := false, apart := false }
def LawS4712AReplySaid : Prop := lawS4712AReplyRow.holds Yba.pinned (OpenSpec.ofChange lawS4712AReplySpec)

/-- ITS FALSE NEIGHBOUR: 'it returns false'. Refute it at one input. -/
def lawS4712AReplyWrong : ChangeSpec := { name := "lawS4712AReply", fn := fun _ => fun
  | [d1, d2, d3, d4, d5, d6, d7] => { results := [.lit (.bool false)], args := [d1, d2, d3, d4, d5, d6, d7] }
  | _ => none }
def LawS4712AReplyWrongFalsely : Prop := lawS4712AReplyRow.holds Yba.pinned (OpenSpec.ofChange lawS4712AReplyWrong)

/-- 'zoneweave.LawS4712BEmpties': WHATEVER THE INPUT: true; the input reads as it did. -/
def lawS4712BEmptiesSpec : ChangeSpec := { name := "lawS4712BEmpties", fn := fun _ => fun
  | [d1, d2, d3] => { results := [.lit (.bool true)], args := [d1, d2, d3] }
  | _ => none }
def lawS4712BEmptiesRow : OpenClaim := { program := "ybulkcsog", sum := "bb3b99e5e6ae8b80811ab2ae544f333a15952e83d4813fa93ebc2bebc9be7ea2", func := "example.com/zoneweave/zoneweave.LawS4712BEmpties", spec := "lawS4712BEmpties", plainKeys := false, apart := false }
def LawS4712BEmptiesSaid : Prop := lawS4712BEmptiesRow.holds Yba.pinned (OpenSpec.ofChange lawS4712BEmptiesSpec)

/-- ITS FALSE NEIGHBOUR: 'it returns false'. Refute it at one input. -/
def lawS4712BEmptiesWrong : ChangeSpec := { name := "lawS4712BEmpties", fn := fun _ => fun
  | [d1, d2, d3] => { results := [.lit (.bool false)], args := [d1, d2, d3] }
  | _ => none }
def LawS4712BEmptiesWrongFalsely : Prop := lawS4712BEmptiesRow.holds Yba.pinned (OpenSpec.ofChange lawS4712BEmptiesWrong)

/-- 'zoneweave.LawS4712BOthersKept': WHATEVER THE INPUT: true; the input reads as it did. -/
def lawS4712BOthersKeptSpec : ChangeSpec := { name := "lawS4712BOthersKept", fn := fun _ => fun
  | [d1, d2, d3] => { results := [.lit (.bool true)], args := [d1, d2, d3] }
  | _ => none }
def lawS4712BOthersKeptRow : OpenClaim := { program := "ybulkcsog", sum := "bb3b99e5e6ae8b80811ab2ae544f333a15952e83d4813fa93ebc2bebc9be7ea2", func := "example.com/zoneweave/zoneweave.LawS4712BOthersKept", spec := "lawS4712BOthersKept", plainKeys := false, apart := false }
def LawS4712BOthersKeptSaid : Prop := lawS4712BOthersKeptRow.holds Yba.pinned (OpenSpec.ofChange lawS4712BOthersKeptSpec)

/-- ITS FALSE NEIGHBOUR: 'it returns false'. Refute it at one input. -/
def lawS4712BOthersKeptWrong : ChangeSpec := { name := "lawS4712BOthersKept", fn := fun _ => fun
  | [d1, d2, d3] => { results := [.lit (.bool false)], args := [d1, d2, d3] }
  | _ => none }
def LawS4712BOthersKeptWrongFalsely : Prop := lawS4712BOthersKeptRow.holds Yba.pinned (OpenSpec.ofChange lawS4712BOthersKeptWrong)

end Rows
end Go.Proofs.Ybulkcsog
