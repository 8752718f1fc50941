/-
  No cell of these rows narrows 'for every input' (looked for: loops, veiled, ifaces, maps, wideKeys, modest, calm, conditions, laid).
  DERIVED. THE GIVEN ROWS OF THIS SEAT. 2 by the template 'for every input the law returns true; each argument reads behind the call as it read before'; 0 by the template 'total and deterministic' (their statements: YbulkbstwTotals.lean).
  GIVEN WITH THE SEED: the statements are not yours to turn. If you find one false, say at which input.
  Laid BY PROGRAM, IN A SANDBOX (cutbox-rows.mjs): the forced cells as the released guide's own fill.sh prints them over the translation 8082b3e7f7050802… (all of the seat's roots in one cut). By AI agents, Wed Nov 11 2026. No macro, syntax, notation, axiom, sorry.
-/
import Derived.Test.YbulkbstwChecked
import GoSem.Claim
import GoSem.ClaimJoined
import GoSem.ClaimMapViews
import Derived.JoinedTies
import Derived.KernelRfl
namespace Go.Proofs.Ybulkbstw
/- THE CELL 'sum', in the pinned program and in every row, IS THE sha256 OF THE DUMP (.gsa) THAT YbulkbstwProg.lean LOADS. Nothing in Lean hashes anything: it is a label: what it is worth is what the hold of that sum in a sandbox is worth. -/
noncomputable def Yba.pinned : Pinned := { name := "ybulkbstw", sum := "8082b3e7f70508029cf42dc2751e9df3c4a1032032c4e9afac46794952bd33ef", checked := Yba.checked }
namespace Rows
def none {H : Type} : Left H := { results := [], args := [] }

/-- 'work-stealing-scheduler.LawS3467BTake': WHATEVER THE INPUT: true; the input reads as it did. -/
def lawS3467BTakeSpec : ChangeSpec := { name := "lawS3467BTake", fn := fun _ => fun
  | [d1, d2] => { results := [.lit (.bool true)], args := [d1, d2] }
  | _ => none }
def lawS3467BTakeRow : OpenClaim := { program := "ybulkbstw", sum := "8082b3e7f70508029cf42dc2751e9df3c4a1032032c4e9afac46794952bd33ef", func := "example.com/work-stealing-scheduler/work-stealing-scheduler.LawS3467BTake", spec := "lawS3467BTake", inPlace := ["sync/atomic.StoreInt64", "sync/atomic.LoadInt64"], apart := false }
def LawS3467BTakeSaid : Prop := lawS3467BTakeRow.holds Yba.pinned (OpenSpec.ofChange lawS3467BTakeSpec)

/-- ITS FALSE NEIGHBOUR: 'it returns false'. Refute it at one input. -/
def lawS3467BTakeWrong : ChangeSpec := { name := "lawS3467BTake", fn := fun _ => fun
  | [d1, d2] => { results := [.lit (.bool false)], args := [d1, d2] }
  | _ => none }
def LawS3467BTakeWrongFalsely : Prop := lawS3467BTakeRow.holds Yba.pinned (OpenSpec.ofChange lawS3467BTakeWrong)

/-- 'work-stealing-scheduler.LawS3467CRungBell': WHATEVER THE INPUT: true; the input reads as it did. -/
def lawS3467CRungBellSpec : ChangeSpec := { name := "lawS3467CRungBell", fn := fun _ => fun
  | [d1, d2, d3] => { results := [.lit (.bool true)], args := [d1, d2, d3] }
  | _ => none }
def lawS3467CRungBellRow : OpenClaim := { program := "ybulkbstw", sum := "8082b3e7f70508029cf42dc2751e9df3c4a1032032c4e9afac46794952bd33ef", func := "example.com/work-stealing-scheduler/work-stealing-scheduler.LawS3467CRungBell", spec := "lawS3467CRungBell", inPlace := ["sync/atomic.StoreUint64", "sync/atomic.StoreInt32", "sync/atomic.LoadUint64", "sync/atomic.AddInt32", "(*internal/sync.Mutex).Lock", "internal/race.Disable", "sync/atomic.CompareAndSwapInt32", "internal/race.Enable", "internal/race.Acquire", "(*internal/sync.Mutex).lockSlow", "internal/sync.runtime_canSpin", "internal/sync.runtime_doSpin", "internal/sync.throw", "internal/sync.runtime_nanotime", "internal/sync.runtime_SemacquireMutex", "(*internal/sync.Mutex).Unlock", "internal/race.ReleaseMerge", "(*internal/sync.Mutex).unlockSlow", "internal/sync.fatal", "internal/sync.runtime_Semrelease", "sync/atomic.LoadPointer", "sync/atomic.LoadInt32", "(*internal/sync.Mutex).TryLock"], apart := false }
def LawS3467CRungBellSaid : Prop := lawS3467CRungBellRow.holds Yba.pinned (OpenSpec.ofChange lawS3467CRungBellSpec)

/-- ITS FALSE NEIGHBOUR: 'it returns false'. Refute it at one input. -/
def lawS3467CRungBellWrong : ChangeSpec := { name := "lawS3467CRungBell", fn := fun _ => fun
  | [d1, d2, d3] => { results := [.lit (.bool false)], args := [d1, d2, d3] }
  | _ => none }
def LawS3467CRungBellWrongFalsely : Prop := lawS3467CRungBellRow.holds Yba.pinned (OpenSpec.ofChange lawS3467CRungBellWrong)

end Rows
end Go.Proofs.Ybulkbstw
