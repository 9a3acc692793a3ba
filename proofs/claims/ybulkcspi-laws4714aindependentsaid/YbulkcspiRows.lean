/-
  No cell of these rows narrows 'for every input' (looked for: loops, veiled, ifaces, maps, wideKeys, modest, calm, conditions, laid).
  DERIVED. THE GIVEN ROWS OF THIS SEAT. 3 by the template 'for every input the law returns true; each argument reads behind the call as it read before'; 0 by the template 'total and deterministic' (their statements: YbulkcspiTotals.lean).
  GIVEN WITH THE SEED: the statements are not yours to turn. If you find one false, say at which input.
  Laid BY PROGRAM, IN A SANDBOX (cutbox-rows.mjs): the forced cells as the released guide's own fill.sh prints them over the translation 084d41a8cb34cdab… (all of the seat's roots in one cut). By AI agents, Wed Nov 11 2026. No macro, syntax, notation, axiom, sorry.
-/
import Derived.Test.YbulkcspiChecked
import GoSem.Claim
import GoSem.ClaimJoined
import GoSem.ClaimMapViews
import Derived.JoinedTies
import Derived.KernelRfl
namespace Go.Proofs.Ybulkcspi
/- THE CELL 'sum', in the pinned program and in every row, IS THE sha256 OF THE DUMP (.gsa) THAT YbulkcspiProg.lean LOADS. Nothing in Lean hashes anything: it is a label: what it is worth is what the hold of that sum in a sandbox is worth. -/
noncomputable def Yba.pinned : Pinned := { name := "ybulkcspi", sum := "084d41a8cb34cdab0966d949281e947bddf791510cf15d406bdfb9c12c08c25c", checked := Yba.checked }
namespace Rows
def none {H : Type} : Left H := { results := [], args := [] }

/-- 'commutant.LawS4714AValue': WHATEVER THE INPUT: true; the input reads as it did. -/
def lawS4714AValueSpec : ChangeSpec := { name := "lawS4714AValue", fn := fun _ => fun
  | [d1, d2, d3] => { results := [.lit (.bool true)], args := [d1, d2, d3] }
  | _ => none }
def lawS4714AValueRow : OpenClaim := { program := "ybulkcspi", sum := "084d41a8cb34cdab0966d949281e947bddf791510cf15d406bdfb9c12c08c25c", func := "example.com/commutant/commutant.LawS4714AValue", spec := "lawS4714AValue", apart := false }
def LawS4714AValueSaid : Prop := lawS4714AValueRow.holds Yba.pinned (OpenSpec.ofChange lawS4714AValueSpec)

/-- ITS FALSE NEIGHBOUR: 'it returns false'. Refute it at one input. -/
def lawS4714AValueWrong : ChangeSpec := { name := "lawS4714AValue", fn := fun _ => fun
  | [d1, d2, d3] => { results := [.lit (.bool false)], args := [d1, d2, d3] }
  | _ => none }
def LawS4714AValueWrongFalsely : Prop := lawS4714AValueRow.holds Yba.pinned (OpenSpec.ofChange lawS4714AValueWrong)

/-- 'commutant.LawS4714AIndependent': WHATEVER THE INPUT: true; the input reads as it did. -/
def lawS4714AIndependentSpec : ChangeSpec := { name := "lawS4714AIndependent", fn := fun _ => fun
  | [d1, d2, d3] => { results := [.lit (.bool true)], args := [d1, d2, d3] }
  | _ => none }
def lawS4714AIndependentRow : OpenClaim := { program := "ybulkcspi", sum := "084d41a8cb34cdab0966d949281e947bddf791510cf15d406bdfb9c12c08c25c", func := "example.com/commutant/commutant.LawS4714AIndependent", spec := "lawS4714AIndependent", inPlace := ["math/big.addVV", "math/bits.Add64", "math/big.subVV", "math/bits.Sub64", "math/big.lshVU"], recurses := true, apart := false }
def LawS4714AIndependentSaid : Prop := lawS4714AIndependentRow.holds Yba.pinned (OpenSpec.ofChange lawS4714AIndependentSpec)

/-- ITS FALSE NEIGHBOUR: 'it returns false'. Refute it at one input. -/
def lawS4714AIndependentWrong : ChangeSpec := { name := "lawS4714AIndependent", fn := fun _ => fun
  | [d1, d2, d3] => { results := [.lit (.bool false)], args := [d1, d2, d3] }
  | _ => none }
def LawS4714AIndependentWrongFalsely : Prop := lawS4714AIndependentRow.holds Yba.pinned (OpenSpec.ofChange lawS4714AIndependentWrong)

/-- 'commutant.LawS4714BFirstStops': WHATEVER THE INPUT: true; the input reads as it did. -/
def lawS4714BFirstStopsSpec : ChangeSpec := { name := "lawS4714BFirstStops", fn := fun _ => fun
  | [d1, d2, d3, d4, d5, d6] => { results := [.lit (.bool true)], args := [d1, d2, d3, d4, d5, d6] }
  | _ => none }
def lawS4714BFirstStopsRow : OpenClaim := { program := "ybulkcspi", sum := "084d41a8cb34cdab0966d949281e947bddf791510cf15d406bdfb9c12c08c25c", func := "example.com/commutant/commutant.LawS4714BFirstStops", spec := "lawS4714BFirstStops", inPlace := ["sync/atomic.StorePointer", "sync/atomic.CompareAndSwapPointer", "(*internal/sync.Mutex).Lock", "internal/race.Disable", "sync/atomic.CompareAndSwapInt32", "internal/race.Enable", "internal/race.Acquire", "(*internal/sync.Mutex).lockSlow", "internal/sync.runtime_canSpin", "internal/sync.runtime_doSpin", "internal/sync.throw", "internal/sync.runtime_nanotime", "internal/sync.runtime_SemacquireMutex", "sync/atomic.AddInt32", "(*internal/sync.Mutex).Unlock", "internal/race.ReleaseMerge", "(*internal/sync.Mutex).unlockSlow", "internal/sync.fatal", "internal/sync.runtime_Semrelease", "sync/atomic.LoadPointer"], unfollowed := true, recurses := true, apart := false }
def LawS4714BFirstStopsSaid : Prop := lawS4714BFirstStopsRow.holds Yba.pinned (OpenSpec.ofChange lawS4714BFirstStopsSpec)

/-- ITS FALSE NEIGHBOUR: 'it returns false'. Refute it at one input. -/
def lawS4714BFirstStopsWrong : ChangeSpec := { name := "lawS4714BFirstStops", fn := fun _ => fun
  | [d1, d2, d3, d4, d5, d6] => { results := [.lit (.bool false)], args := [d1, d2, d3, d4, d5, d6] }
  | _ => none }
def LawS4714BFirstStopsWrongFalsely : Prop := lawS4714BFirstStopsRow.holds Yba.pinned (OpenSpec.ofChange lawS4714BFirstStopsWrong)

end Rows
end Go.Proofs.Ybulkcspi
