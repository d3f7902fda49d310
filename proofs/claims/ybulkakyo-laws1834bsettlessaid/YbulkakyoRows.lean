/-
  No cell of these rows narrows 'for every input' (looked for: loops, veiled, ifaces, maps, wideKeys, modest, calm, conditions, laid).
  DERIVED. THE GIVEN ROWS OF THIS SEAT. 2 by the template 'for every input the law returns true; each argument reads behind the call as it read before'; 0 by the template 'total and deterministic' (their statements: YbulkakyoTotals.lean).
  GIVEN WITH THE SEED: the statements are not yours to turn. If you find one false, say at which input.
  Laid BY PROGRAM, IN A SANDBOX (cutbox-rows.mjs): the forced cells as the released guide's own fill.sh prints them over the translation da191100454e1518… (all of the seat's roots in one cut). By AI agents, Wed Nov 11 2026. No macro, syntax, notation, axiom, sorry.
-/
import Derived.Test.YbulkakyoChecked
import GoSem.Claim
import GoSem.ClaimJoined
import GoSem.ClaimMapViews
import Derived.JoinedTies
import Derived.KernelRfl
namespace Go.Proofs.Ybulkakyo
/- THE CELL 'sum', in the pinned program and in every row, IS THE sha256 OF THE DUMP (.gsa) THAT YbulkakyoProg.lean LOADS. Nothing in Lean hashes anything: it is a label: what it is worth is what the hold of that sum in a sandbox is worth. -/
noncomputable def Yba.pinned : Pinned := { name := "ybulkakyo", sum := "da191100454e15185b3c546a56c8b3f9f198e768b00b3abb1e2d7b7430886b4d", checked := Yba.checked }
namespace Rows
def none {H : Type} : Left H := { results := [], args := [] }

/-- 'palimpsest.LawS1834BSettles': WHATEVER THE INPUT: true; the input reads as it did. -/
def lawS1834BSettlesSpec : ChangeSpec := { name := "lawS1834BSettles", fn := fun _ => fun
  | [d1, d2, d3] => { results := [.lit (.bool true)], args := [d1, d2, d3] }
  | _ => none }
def lawS1834BSettlesRow : OpenClaim := { program := "ybulkakyo", sum := "da191100454e15185b3c546a56c8b3f9f198e768b00b3abb1e2d7b7430886b4d", func := "example.com/palimpsest/palimpsest.LawS1834BSettles", spec := "lawS1834BSettles", inPlace := ["sync/atomic.StoreUint64", "(*sync.RWMutex).Lock", "internal/race.Read", "internal/race.Disable", "(*internal/sync.Mutex).Lock", "sync/atomic.CompareAndSwapInt32", "internal/race.Enable", "internal/race.Acquire", "(*internal/sync.Mutex).lockSlow", "internal/sync.runtime_canSpin", "internal/sync.runtime_doSpin", "internal/sync.throw", "internal/sync.runtime_nanotime", "internal/sync.runtime_SemacquireMutex", "sync/atomic.AddInt32", "sync.runtime_SemacquireRWMutex", "sync/atomic.LoadUint64", "(*sync.RWMutex).Unlock", "internal/race.Release", "internal/race.ReleaseMerge", "sync.fatal", "sync.runtime_Semrelease", "(*internal/sync.Mutex).Unlock", "(*internal/sync.Mutex).unlockSlow", "internal/sync.fatal", "internal/sync.runtime_Semrelease", "(*sync.RWMutex).TryLock", "(*internal/sync.Mutex).TryLock"], unfollowed := true, recurses := true, apart := false }
def LawS1834BSettlesSaid : Prop := lawS1834BSettlesRow.holds Yba.pinned (OpenSpec.ofChange lawS1834BSettlesSpec)

/-- ITS FALSE NEIGHBOUR: 'it returns false'. Refute it at one input. -/
def lawS1834BSettlesWrong : ChangeSpec := { name := "lawS1834BSettles", fn := fun _ => fun
  | [d1, d2, d3] => { results := [.lit (.bool false)], args := [d1, d2, d3] }
  | _ => none }
def LawS1834BSettlesWrongFalsely : Prop := lawS1834BSettlesRow.holds Yba.pinned (OpenSpec.ofChange lawS1834BSettlesWrong)

/-- 'palimpsest.LawS1834CPrefix': WHATEVER THE INPUT: true; the input reads as it did. -/
def lawS1834CPrefixSpec : ChangeSpec := { name := "lawS1834CPrefix", fn := fun _ => fun
  | [d1, d2, d3] => { results := [.lit (.bool true)], args := [d1, d2, d3] }
  | _ => none }
def lawS1834CPrefixRow : OpenClaim := { program := "ybulkakyo", sum := "da191100454e15185b3c546a56c8b3f9f198e768b00b3abb1e2d7b7430886b4d", func := "example.com/palimpsest/palimpsest.LawS1834CPrefix", spec := "lawS1834CPrefix", unfollowed := true, recurses := true, apart := false }
def LawS1834CPrefixSaid : Prop := lawS1834CPrefixRow.holds Yba.pinned (OpenSpec.ofChange lawS1834CPrefixSpec)

/-- ITS FALSE NEIGHBOUR: 'it returns false'. Refute it at one input. -/
def lawS1834CPrefixWrong : ChangeSpec := { name := "lawS1834CPrefix", fn := fun _ => fun
  | [d1, d2, d3] => { results := [.lit (.bool false)], args := [d1, d2, d3] }
  | _ => none }
def LawS1834CPrefixWrongFalsely : Prop := lawS1834CPrefixRow.holds Yba.pinned (OpenSpec.ofChange lawS1834CPrefixWrong)

end Rows
end Go.Proofs.Ybulkakyo
