/-
  NARROWER THAN 'FOR EVERY INPUT', by the rows' own cells (each row's printed sentence says how): LawS4710BParse: ifaces, laid · LawS4710CParse: ifaces, laid.
  DERIVED. THE GIVEN ROWS OF THIS SEAT. 4 by the template 'for every input the law returns true; each argument reads behind the call as it read before'; 0 by the template 'total and deterministic' (their statements: YbulkcsneFmtTotals.lean).
  GIVEN WITH THE SEED: the statements are not yours to turn. If you find one false, say at which input.
  Laid BY PROGRAM, IN A SANDBOX (cutbox-rows.mjs): the forced cells as the released guide's own fill.sh prints them over the translation 17cd26117c624293… (all of the seat's roots in one cut). By AI agents, Wed Nov 11 2026. No macro, syntax, notation, axiom, sorry.
-/
import Derived.Test.YbulkcsneFmtChecked
import GoSem.PinnedTables
import GoSem.Claim
import GoSem.ClaimJoined
import GoSem.ClaimMapViews
import Derived.JoinedTies
import Derived.KernelRfl
namespace Go.Proofs.YbulkcsneFmt
/- THE CELL 'sum', in the pinned program and in every row, IS THE sha256 OF THE DUMP (.gsa) THAT YbulkcsneFmtProg.lean LOADS. Nothing in Lean hashes anything: it is a label: what it is worth is what the hold of that sum in a sandbox is worth. -/
noncomputable def Ybaf.pinned : Pinned := { name := "ybulkcsnefmt", sum := "17cd26117c6242936e8dc32bc5eab7ff75301f68f875fdced502b7125422c837", checked := Ybaf.checked }
namespace Rows
def none {H : Type} : Left H := { results := [], args := [] }

/- WHAT THE LISTED PACKAGE-LEVEL VARIABLES READ AS WHEN THE CALL BEGINS. Each datum BY PROGRAM (the guide's laid-datum.mjs) off the statement by which the dump's own 'gosem.cut.vars' lays the variable. In a bare row this is a premise. The card (YbulkcsneFmtCards.lean) ties it to the program's text. -/
def laid_unicode_utf8_acceptRanges {H : Type} : DataW H := .agg [.agg [.lit (.int .u8 128), .lit (.int .u8 191)], .agg [.lit (.int .u8 160), .lit (.int .u8 191)], .agg [.lit (.int .u8 128), .lit (.int .u8 159)], .agg [.lit (.int .u8 144), .lit (.int .u8 191)], .agg [.lit (.int .u8 128), .lit (.int .u8 143)], .agg [.lit (.int .u8 0), .lit (.int .u8 0)], .agg [.lit (.int .u8 0), .lit (.int .u8 0)], .agg [.lit (.int .u8 0), .lit (.int .u8 0)], .agg [.lit (.int .u8 0), .lit (.int .u8 0)], .agg [.lit (.int .u8 0), .lit (.int .u8 0)], .agg [.lit (.int .u8 0), .lit (.int .u8 0)], .agg [.lit (.int .u8 0), .lit (.int .u8 0)], .agg [.lit (.int .u8 0), .lit (.int .u8 0)], .agg [.lit (.int .u8 0), .lit (.int .u8 0)], .agg [.lit (.int .u8 0), .lit (.int .u8 0)], .agg [.lit (.int .u8 0), .lit (.int .u8 0)]]
def laid_example_com_peerhatch_peerhatch_getopt_ErrHelp {H : Type} : DataW H := .iface "*errors.errorString" (.ptr (.agg [.lit (.string [117, 115, 97, 103, 101, 32, 114, 101, 113, 117, 101, 115, 116, 101, 100])]))
/-- One of Go's own tables, pinned by name: the form's constant. -/
def laid_unicode_utf8_first : DataW Unit := Go.Pinned.utf8First

/-- 'getopt.LawS4710BDefines': WHATEVER THE INPUT: true; the input reads as it did. -/
def lawS4710BDefinesSpec : ChangeSpec := { name := "lawS4710BDefines", fn := fun _ => fun
  | [d1, d2, d3, d4, d5, d6] => { results := [.lit (.bool true)], args := [d1, d2, d3, d4, d5, d6] }
  | _ => none }
def lawS4710BDefinesRow : OpenClaim := { program := "ybulkcsnefmt", sum := "17cd26117c6242936e8dc32bc5eab7ff75301f68f875fdced502b7125422c837", func := "example.com/peerhatch/peerhatch/getopt.LawS4710BDefines", spec := "lawS4710BDefines", stops := ["fmt.Sprintf", "fmt.errorf"], inPlace := ["fmt.Sprintf"], unfollowed := true, recurses := true, apart := false }
/-- NO THEOREM (fmt's text is open here; it may be false): for the released tool's asking of the row's closed facts alone. THE STATEMENT IS 'LawS4710BDefinesToldSaid' (YbulkcsneFmtCards.lean). -/
def LawS4710BDefinesFormAsk : Prop := lawS4710BDefinesRow.holds Ybaf.pinned (OpenSpec.ofChange lawS4710BDefinesSpec)

/-- ITS FALSE NEIGHBOUR: 'it returns false'. Refute it at one input. -/
def lawS4710BDefinesWrong : ChangeSpec := { name := "lawS4710BDefines", fn := fun _ => fun
  | [d1, d2, d3, d4, d5, d6] => { results := [.lit (.bool false)], args := [d1, d2, d3, d4, d5, d6] }
  | _ => none }
def LawS4710BDefinesWrongFormAsk : Prop := lawS4710BDefinesRow.holds Ybaf.pinned (OpenSpec.ofChange lawS4710BDefinesWrong)

/-- 'getopt.LawS4710BParse': WHATEVER THE INPUT: true; the input reads as it did. -/
def lawS4710BParseSpec : ChangeSpec := { name := "lawS4710BParse", vars := ["example.com/peerhatch/peerhatch/getopt.ErrHelp"], fn := fun _ => fun
  | [d1, d2, d3, d4, d5, g1] => { results := [.lit (.bool true)], args := [d1, d2, d3, d4, d5], vars := [g1] }
  | _ => none }
def lawS4710BParseRow : OpenClaim := { program := "ybulkcsnefmt", sum := "17cd26117c6242936e8dc32bc5eab7ff75301f68f875fdced502b7125422c837", func := "example.com/peerhatch/peerhatch/getopt.LawS4710BParse", spec := "lawS4710BParse", stops := ["fmt.Sprintf", "fmt.errorf"], inPlace := ["fmt.Sprintf", "fmt.Fprintf", "fmt.errorf"], unfollowed := true, recurses := true, named := ["example.com/peerhatch/peerhatch/getopt.ErrHelp", "unicode/utf8.first", "unicode/utf8.acceptRanges"], ifaces := true, apart := false, laid := [("unicode/utf8.acceptRanges", laid_unicode_utf8_acceptRanges), ("example.com/peerhatch/peerhatch/getopt.ErrHelp", laid_example_com_peerhatch_peerhatch_getopt_ErrHelp), ("unicode/utf8.first", laid_unicode_utf8_first)] }
/-- NO THEOREM (fmt's text is open here; it may be false): for the released tool's asking of the row's closed facts alone. THE STATEMENT IS 'LawS4710BParseToldSaid' (YbulkcsneFmtCards.lean). -/
def LawS4710BParseFormAsk : Prop := lawS4710BParseRow.holds Ybaf.pinned (OpenSpec.ofChange lawS4710BParseSpec)

/-- ITS FALSE NEIGHBOUR: 'it returns false'. Refute it at one input. -/
def lawS4710BParseWrong : ChangeSpec := { name := "lawS4710BParse", vars := ["example.com/peerhatch/peerhatch/getopt.ErrHelp"], fn := fun _ => fun
  | [d1, d2, d3, d4, d5, g1] => { results := [.lit (.bool false)], args := [d1, d2, d3, d4, d5], vars := [g1] }
  | _ => none }
def LawS4710BParseWrongFormAsk : Prop := lawS4710BParseRow.holds Ybaf.pinned (OpenSpec.ofChange lawS4710BParseWrong)

/-- 'getopt.LawS4710CDefine': WHATEVER THE INPUT: true; the input reads as it did. -/
def lawS4710CDefineSpec : ChangeSpec := { name := "lawS4710CDefine", fn := fun _ => fun
  | [d1, d2, d3, d4] => { results := [.lit (.bool true)], args := [d1, d2, d3, d4] }
  | _ => none }
def lawS4710CDefineRow : OpenClaim := { program := "ybulkcsnefmt", sum := "17cd26117c6242936e8dc32bc5eab7ff75301f68f875fdced502b7125422c837", func := "example.com/peerhatch/peerhatch/getopt.LawS4710CDefine", spec := "lawS4710CDefine", stops := ["fmt.Sprintf", "fmt.errorf"], inPlace := ["fmt.Sprintf"], unfollowed := true, recurses := true, apart := false }
/-- NO THEOREM (fmt's text is open here; it may be false): for the released tool's asking of the row's closed facts alone. THE STATEMENT IS 'LawS4710CDefineToldSaid' (YbulkcsneFmtCards.lean). -/
def LawS4710CDefineFormAsk : Prop := lawS4710CDefineRow.holds Ybaf.pinned (OpenSpec.ofChange lawS4710CDefineSpec)

/-- ITS FALSE NEIGHBOUR: 'it returns false'. Refute it at one input. -/
def lawS4710CDefineWrong : ChangeSpec := { name := "lawS4710CDefine", fn := fun _ => fun
  | [d1, d2, d3, d4] => { results := [.lit (.bool false)], args := [d1, d2, d3, d4] }
  | _ => none }
def LawS4710CDefineWrongFormAsk : Prop := lawS4710CDefineRow.holds Ybaf.pinned (OpenSpec.ofChange lawS4710CDefineWrong)

/-- 'getopt.LawS4710CParse': WHATEVER THE INPUT: true; the input reads as it did. -/
def lawS4710CParseSpec : ChangeSpec := { name := "lawS4710CParse", vars := ["example.com/peerhatch/peerhatch/getopt.ErrHelp"], fn := fun _ => fun
  | [d1, d2, d3, d4, g1] => { results := [.lit (.bool true)], args := [d1, d2, d3, d4], vars := [g1] }
  | _ => none }
def lawS4710CParseRow : OpenClaim := { program := "ybulkcsnefmt", sum := "17cd26117c6242936e8dc32bc5eab7ff75301f68f875fdced502b7125422c837", func := "example.com/peerhatch/peerhatch/getopt.LawS4710CParse", spec := "lawS4710CParse", stops := ["fmt.Sprintf", "fmt.errorf"], inPlace := ["fmt.Sprintf", "fmt.Fprintf", "fmt.errorf"], unfollowed := true, recurses := true, named := ["example.com/peerhatch/peerhatch/getopt.ErrHelp", "unicode/utf8.first", "unicode/utf8.acceptRanges"], ifaces := true, apart := false, laid := [("unicode/utf8.acceptRanges", laid_unicode_utf8_acceptRanges), ("example.com/peerhatch/peerhatch/getopt.ErrHelp", laid_example_com_peerhatch_peerhatch_getopt_ErrHelp), ("unicode/utf8.first", laid_unicode_utf8_first)] }
/-- NO THEOREM (fmt's text is open here; it may be false): for the released tool's asking of the row's closed facts alone. THE STATEMENT IS 'LawS4710CParseToldSaid' (YbulkcsneFmtCards.lean). -/
def LawS4710CParseFormAsk : Prop := lawS4710CParseRow.holds Ybaf.pinned (OpenSpec.ofChange lawS4710CParseSpec)

/-- ITS FALSE NEIGHBOUR: 'it returns false'. Refute it at one input. -/
def lawS4710CParseWrong : ChangeSpec := { name := "lawS4710CParse", vars := ["example.com/peerhatch/peerhatch/getopt.ErrHelp"], fn := fun _ => fun
  | [d1, d2, d3, d4, g1] => { results := [.lit (.bool false)], args := [d1, d2, d3, d4], vars := [g1] }
  | _ => none }
def LawS4710CParseWrongFormAsk : Prop := lawS4710CParseRow.holds Ybaf.pinned (OpenSpec.ofChange lawS4710CParseWrong)

end Rows
end Go.Proofs.YbulkcsneFmt
