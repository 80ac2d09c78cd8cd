/-
  No cell of these rows narrows 'for every input' (looked for: loops, veiled, ifaces, maps, wideKeys, modest, calm, conditions, laid).
  DERIVED. THE GIVEN ROWS OF THIS SEAT. 3 by the template 'for every input the law returns true; each argument reads behind the call as it read before'; 0 by the template 'total and deterministic' (their statements: YbulkchzqTotals.lean).
  GIVEN WITH THE SEED: the statements are not yours to turn. If you find one false, say at which input.
  Laid BY PROGRAM, IN A SANDBOX (cutbox-rows.mjs): the forced cells as the released guide's own fill.sh prints them over the translation d25f55aedbaa4ca2… (all of the seat's roots in one cut). By AI agents, Wed Nov 11 2026. No macro, syntax, notation, axiom, sorry.
-/
import Derived.Test.YbulkchzqChecked
import GoSem.Claim
import GoSem.ClaimJoined
import GoSem.ClaimMapViews
import Derived.JoinedTies
import Derived.KernelRfl
namespace Go.Proofs.Ybulkchzq
/- THE CELL 'sum', in the pinned program and in every row, IS THE sha256 OF THE DUMP (.gsa) THAT YbulkchzqProg.lean LOADS. Nothing in Lean hashes anything: it is a label: what it is worth is what the hold of that sum in a sandbox is worth. -/
noncomputable def Yba.pinned : Pinned := { name := "ybulkchzq", sum := "d25f55aedbaa4ca2c816d641d5c7f6a1ea062e0177a09c4f0c6ee8b1e19cffbc", checked := Yba.checked }
namespace Rows
def none {H : Type} : Left H := { results := [], args := [] }

/-- 'storage.LawS4202BTake': WHATEVER THE INPUT: true; the input reads as it did. -/
def lawS4202BTakeSpec : ChangeSpec := { name := "lawS4202BTake", fn := fun _ => fun
  | [d1, d2, d3, d4, d5] => { results := [.lit (.bool true)], args := [d1, d2, d3, d4, d5] }
  | _ => none }
def lawS4202BTakeRow : OpenClaim := { program := "ybulkchzq", sum := "d25f55aedbaa4ca2c816d641d5c7f6a1ea062e0177a09c4f0c6ee8b1e19cffbc", func := "example.com/labeld/labeld/internal/storage.LawS4202BTake", spec := "lawS4202BTake", unfollowed := true, recurses := true, plainKeys := false, apart := false }
def LawS4202BTakeSaid : Prop := lawS4202BTakeRow.holds Yba.pinned (OpenSpec.ofChange lawS4202BTakeSpec)

/-- ITS FALSE NEIGHBOUR: 'it returns false'. Refute it at one input. -/
def lawS4202BTakeWrong : ChangeSpec := { name := "lawS4202BTake", fn := fun _ => fun
  | [d1, d2, d3, d4, d5] => { results := [.lit (.bool false)], args := [d1, d2, d3, d4, d5] }
  | _ => none }
def LawS4202BTakeWrongFalsely : Prop := lawS4202BTakeRow.holds Yba.pinned (OpenSpec.ofChange lawS4202BTakeWrong)

/-- 'dispatch.LawS4202CSetsSaved': WHATEVER THE INPUT: true; the input reads as it did. -/
def lawS4202CSetsSavedSpec : ChangeSpec := { name := "lawS4202CSetsSaved", fn := fun _ => fun
  | [d1, d2, d3, d4] => { results := [.lit (.bool true)], args := [d1, d2, d3, d4] }
  | _ => none }
def lawS4202CSetsSavedRow : OpenClaim := { program := "ybulkchzq", sum := "d25f55aedbaa4ca2c816d641d5c7f6a1ea062e0177a09c4f0c6ee8b1e19cffbc", func := "example.com/labeld/labeld/internal/dispatch.LawS4202CSetsSaved", spec := "lawS4202CSetsSaved", inPlace := ["(*internal/sync.Mutex).Lock", "internal/race.Disable", "sync/atomic.CompareAndSwapInt32", "internal/race.Enable", "internal/race.Acquire", "(*internal/sync.Mutex).lockSlow", "internal/sync.runtime_canSpin", "internal/sync.runtime_doSpin", "internal/sync.throw", "internal/sync.runtime_nanotime", "internal/sync.runtime_SemacquireMutex", "sync/atomic.AddInt32", "(*internal/sync.Mutex).Unlock", "internal/race.ReleaseMerge", "(*internal/sync.Mutex).unlockSlow", "internal/sync.fatal", "internal/sync.runtime_Semrelease", "(*internal/sync.Mutex).TryLock"], plainKeys := false, apart := false }
def LawS4202CSetsSavedSaid : Prop := lawS4202CSetsSavedRow.holds Yba.pinned (OpenSpec.ofChange lawS4202CSetsSavedSpec)

/-- ITS FALSE NEIGHBOUR: 'it returns false'. Refute it at one input. -/
def lawS4202CSetsSavedWrong : ChangeSpec := { name := "lawS4202CSetsSaved", fn := fun _ => fun
  | [d1, d2, d3, d4] => { results := [.lit (.bool false)], args := [d1, d2, d3, d4] }
  | _ => none }
def LawS4202CSetsSavedWrongFalsely : Prop := lawS4202CSetsSavedRow.holds Yba.pinned (OpenSpec.ofChange lawS4202CSetsSavedWrong)

/-- 'dispatch.LawS4202CSaveCycle': WHATEVER THE INPUT: true; the input reads as it did. -/
def lawS4202CSaveCycleSpec : ChangeSpec := { name := "lawS4202CSaveCycle", fn := fun _ => fun
  | [d1, d2] => { results := [.lit (.bool true)], args := [d1, d2] }
  | _ => none }
def lawS4202CSaveCycleRow : OpenClaim := { program := "ybulkchzq", sum := "d25f55aedbaa4ca2c816d641d5c7f6a1ea062e0177a09c4f0c6ee8b1e19cffbc", func := "example.com/labeld/labeld/internal/dispatch.LawS4202CSaveCycle", spec := "lawS4202CSaveCycle", inPlace := ["(*internal/sync.Mutex).Lock", "internal/race.Disable", "sync/atomic.CompareAndSwapInt32", "internal/race.Enable", "internal/race.Acquire", "(*internal/sync.Mutex).lockSlow", "internal/sync.runtime_canSpin", "internal/sync.runtime_doSpin", "internal/sync.throw", "internal/sync.runtime_nanotime", "internal/sync.runtime_SemacquireMutex", "sync/atomic.AddInt32", "(*internal/sync.Mutex).Unlock", "internal/race.ReleaseMerge", "(*internal/sync.Mutex).unlockSlow", "internal/sync.fatal", "internal/sync.runtime_Semrelease"], plainKeys := false, apart := false }
def LawS4202CSaveCycleSaid : Prop := lawS4202CSaveCycleRow.holds Yba.pinned (OpenSpec.ofChange lawS4202CSaveCycleSpec)

/-- ITS FALSE NEIGHBOUR: 'it returns false'. Refute it at one input. -/
def lawS4202CSaveCycleWrong : ChangeSpec := { name := "lawS4202CSaveCycle", fn := fun _ => fun
  | [d1, d2] => { results := [.lit (.bool false)], args := [d1, d2] }
  | _ => none }
def LawS4202CSaveCycleWrongFalsely : Prop := lawS4202CSaveCycleRow.holds Yba.pinned (OpenSpec.ofChange lawS4202CSaveCycleWrong)

end Rows
end Go.Proofs.Ybulkchzq
