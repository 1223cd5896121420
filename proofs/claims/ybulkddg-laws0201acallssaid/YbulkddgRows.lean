/-
  No cell of these rows narrows 'for every input' (looked for: loops, veiled, ifaces, maps, wideKeys, modest, calm, conditions, laid).
  DERIVED. THE GIVEN ROWS OF THIS SEAT. 4 by the template 'for every input the law returns true; each argument reads behind the call as it read before'; 0 by the template 'total and deterministic' (their statements: YbulkddgTotals.lean).
  GIVEN WITH THE SEED: the statements are not yours to turn. If you find one false, say at which input.
  Laid BY PROGRAM, IN A SANDBOX (cutbox-rows.mjs): the forced cells as the released guide's own fill.sh prints them over the translation 7ebb8740b7c85230… (all of the seat's roots in one cut). By AI agents, Wed Nov 11 2026. No macro, syntax, notation, axiom, sorry.
-/
import Derived.Test.YbulkddgChecked
import GoSem.Claim
import GoSem.ClaimJoined
import GoSem.ClaimMapViews
import Derived.JoinedTies
import Derived.KernelRfl
namespace Go.Proofs.Ybulkddg
/- THE CELL 'sum', in the pinned program and in every row, IS THE sha256 OF THE DUMP (.gsa) THAT YbulkddgProg.lean LOADS. Nothing in Lean hashes anything: it is a label: what it is worth is what the hold of that sum in a sandbox is worth. -/
noncomputable def Yba.pinned : Pinned := { name := "ybulkddg", sum := "7ebb8740b7c852303ba77fdde7e46de501a297a58804ca4486d37d34a70c2977", checked := Yba.checked }
namespace Rows
def none {H : Type} : Left H := { results := [], args := [] }

/-- 'sandbox.LawS0201ACalls': WHATEVER THE INPUT: true; the input reads as it did. -/
def lawS0201ACallsSpec : ChangeSpec := { name := "lawS0201ACalls", fn := fun _ => fun
  | [d1, d2, d3] => { results := [.lit (.bool true)], args := [d1, d2, d3] }
  | _ => none }
def lawS0201ACallsRow : OpenClaim := { program := "ybulkddg", sum := "7ebb8740b7c852303ba77fdde7e46de501a297a58804ca4486d37d34a70c2977", func := "example.com/driftwatch/driftwatch/sandbox.LawS0201ACalls", spec := "lawS0201ACalls", inPlace := ["(*internal/sync.Mutex).TryLock", "internal/race.Disable", "internal/race.Enable", "sync/atomic.CompareAndSwapInt32", "internal/race.Acquire", "(*internal/sync.Mutex).Unlock", "internal/race.ReleaseMerge", "sync/atomic.AddInt32", "(*internal/sync.Mutex).unlockSlow", "internal/sync.fatal", "internal/sync.runtime_Semrelease", "(*internal/sync.Mutex).Lock", "(*internal/sync.Mutex).lockSlow", "internal/sync.runtime_canSpin", "internal/sync.runtime_doSpin", "internal/sync.throw", "internal/sync.runtime_nanotime", "internal/sync.runtime_SemacquireMutex"], unfollowed := true, recurses := true, apart := false }
def LawS0201ACallsSaid : Prop := lawS0201ACallsRow.holds Yba.pinned (OpenSpec.ofChange lawS0201ACallsSpec)

/-- ITS FALSE NEIGHBOUR: 'it returns false'. Refute it at one input. -/
def lawS0201ACallsWrong : ChangeSpec := { name := "lawS0201ACalls", fn := fun _ => fun
  | [d1, d2, d3] => { results := [.lit (.bool false)], args := [d1, d2, d3] }
  | _ => none }
def LawS0201ACallsWrongFalsely : Prop := lawS0201ACallsRow.holds Yba.pinned (OpenSpec.ofChange lawS0201ACallsWrong)

/-- 'sandbox.LawS0201ANilLogf': WHATEVER THE INPUT: true; the input reads as it did. -/
def lawS0201ANilLogfSpec : ChangeSpec := { name := "lawS0201ANilLogf", fn := fun _ => fun
  | [d1, d2] => { results := [.lit (.bool true)], args := [d1, d2] }
  | _ => none }
def lawS0201ANilLogfRow : OpenClaim := { program := "ybulkddg", sum := "7ebb8740b7c852303ba77fdde7e46de501a297a58804ca4486d37d34a70c2977", func := "example.com/driftwatch/driftwatch/sandbox.LawS0201ANilLogf", spec := "lawS0201ANilLogf", inPlace := ["(*internal/sync.Mutex).Lock", "internal/race.Disable", "sync/atomic.CompareAndSwapInt32", "internal/race.Enable", "internal/race.Acquire", "(*internal/sync.Mutex).lockSlow", "internal/sync.runtime_canSpin", "internal/sync.runtime_doSpin", "internal/sync.throw", "internal/sync.runtime_nanotime", "internal/sync.runtime_SemacquireMutex", "sync/atomic.AddInt32", "(*internal/sync.Mutex).Unlock", "internal/race.ReleaseMerge", "(*internal/sync.Mutex).unlockSlow", "internal/sync.fatal", "internal/sync.runtime_Semrelease", "(*internal/sync.Mutex).TryLock"], unfollowed := true, recurses := true, apart := false }
def LawS0201ANilLogfSaid : Prop := lawS0201ANilLogfRow.holds Yba.pinned (OpenSpec.ofChange lawS0201ANilLogfSpec)

/-- ITS FALSE NEIGHBOUR: 'it returns false'. Refute it at one input. -/
def lawS0201ANilLogfWrong : ChangeSpec := { name := "lawS0201ANilLogf", fn := fun _ => fun
  | [d1, d2] => { results := [.lit (.bool false)], args := [d1, d2] }
  | _ => none }
def LawS0201ANilLogfWrongFalsely : Prop := lawS0201ANilLogfRow.holds Yba.pinned (OpenSpec.ofChange lawS0201ANilLogfWrong)

/-- 'ledger.LawS0201CBytes': WHATEVER THE INPUT: true; the input reads as it did. -/
def lawS0201CBytesSpec : ChangeSpec := { name := "lawS0201CBytes", fn := fun _ => fun
  | [d1, d2, d3, d4] => { results := [.lit (.bool true)], args := [d1, d2, d3, d4] }
  | _ => none }
def lawS0201CBytesRow : OpenClaim := { program := "ybulkddg", sum := "7ebb8740b7c852303ba77fdde7e46de501a297a58804ca4486d37d34a70c2977", func := "example.com/driftwatch/driftwatch/ledger.LawS0201CBytes", spec := "lawS0201CBytes", named := ["encoding/binary.LittleEndian"], apart := false }
def LawS0201CBytesSaid : Prop := lawS0201CBytesRow.holds Yba.pinned (OpenSpec.ofChange lawS0201CBytesSpec)

/-- ITS FALSE NEIGHBOUR: 'it returns false'. Refute it at one input. -/
def lawS0201CBytesWrong : ChangeSpec := { name := "lawS0201CBytes", fn := fun _ => fun
  | [d1, d2, d3, d4] => { results := [.lit (.bool false)], args := [d1, d2, d3, d4] }
  | _ => none }
def LawS0201CBytesWrongFalsely : Prop := lawS0201CBytesRow.holds Yba.pinned (OpenSpec.ofChange lawS0201CBytesWrong)

/-- 'ledger.LawS0201CRoundTrip': WHATEVER THE INPUT: true; the input reads as it did. -/
def lawS0201CRoundTripSpec : ChangeSpec := { name := "lawS0201CRoundTrip", fn := fun _ => fun
  | [d1, d2, d3, d4] => { results := [.lit (.bool true)], args := [d1, d2, d3, d4] }
  | _ => none }
def lawS0201CRoundTripRow : OpenClaim := { program := "ybulkddg", sum := "7ebb8740b7c852303ba77fdde7e46de501a297a58804ca4486d37d34a70c2977", func := "example.com/driftwatch/driftwatch/ledger.LawS0201CRoundTrip", spec := "lawS0201CRoundTrip", named := ["encoding/binary.LittleEndian"], apart := false }
def LawS0201CRoundTripSaid : Prop := lawS0201CRoundTripRow.holds Yba.pinned (OpenSpec.ofChange lawS0201CRoundTripSpec)

/-- ITS FALSE NEIGHBOUR: 'it returns false'. Refute it at one input. -/
def lawS0201CRoundTripWrong : ChangeSpec := { name := "lawS0201CRoundTrip", fn := fun _ => fun
  | [d1, d2, d3, d4] => { results := [.lit (.bool false)], args := [d1, d2, d3, d4] }
  | _ => none }
def LawS0201CRoundTripWrongFalsely : Prop := lawS0201CRoundTripRow.holds Yba.pinned (OpenSpec.ofChange lawS0201CRoundTripWrong)

end Rows
end Go.Proofs.Ybulkddg
