/-
  No cell of these rows narrows 'for every input' (looked for: loops, veiled, ifaces, maps, wideKeys, modest, calm, conditions, laid).
  DERIVED. THE GIVEN ROWS OF THIS SEAT. 4 by the template 'for every input the law returns true; each argument reads behind the call as it read before'; 0 by the template 'total and deterministic' (their statements: YbulkbyzkTotals.lean).
  GIVEN WITH THE SEED: the statements are not yours to turn. If you find one false, say at which input.
  Laid BY PROGRAM, IN A SANDBOX (cutbox-rows.mjs): the forced cells as the released guide's own fill.sh prints them over the translation 7d4e4576d57c87f7… (all of the seat's roots in one cut). By AI agents, Wed Nov 11 2026. No macro, syntax, notation, axiom, sorry.
-/
import Derived.Test.YbulkbyzkChecked
import GoSem.Claim
import GoSem.ClaimJoined
import GoSem.ClaimMapViews
import Derived.JoinedTies
import Derived.KernelRfl
namespace Go.Proofs.Ybulkbyzk
/- THE CELL 'sum', in the pinned program and in every row, IS THE sha256 OF THE DUMP (.gsa) THAT YbulkbyzkProg.lean LOADS. Nothing in Lean hashes anything: it is a label: what it is worth is what the hold of that sum in a sandbox is worth. -/
noncomputable def Yba.pinned : Pinned := { name := "ybulkbyzk", sum := "7d4e4576d57c87f719421af0e4517d19d588ed10a158cdf32806285ab006dda6", checked := Yba.checked }
namespace Rows
def none {H : Type} : Left H := { results := [], args := [] }

/-- 'stealdeck.LawS3767ANotifyOnce': WHATEVER THE INPUT: true; the input reads as it did. -/
def lawS3767ANotifyOnceSpec : ChangeSpec := { name := "lawS3767ANotifyOnce", fn := fun _ => fun
  | [d1, d2, d3, d4] => { results := [.lit (.bool true)], args := [d1, d2, d3, d4] }
  | _ => none }
def lawS3767ANotifyOnceRow : OpenClaim := { program := "ybulkbyzk", sum := "7d4e4576d57c87f719421af0e4517d19d588ed10a158cdf32806285ab006dda6", func := "example.com/stealdeck/stealdeck.LawS3767ANotifyOnce", spec := "lawS3767ANotifyOnce", inPlace := ["sync/atomic.StoreInt32", "sync/atomic.LoadInt32", "sync/atomic.CompareAndSwapInt32", "(*internal/sync.Mutex).Lock", "internal/race.Disable", "internal/race.Enable", "internal/race.Acquire", "(*internal/sync.Mutex).lockSlow", "internal/sync.runtime_canSpin", "internal/sync.runtime_doSpin", "internal/sync.throw", "internal/sync.runtime_nanotime", "internal/sync.runtime_SemacquireMutex", "sync/atomic.AddInt32", "(*internal/sync.Mutex).Unlock", "internal/race.ReleaseMerge", "(*internal/sync.Mutex).unlockSlow", "internal/sync.fatal", "internal/sync.runtime_Semrelease"], apart := false }
def LawS3767ANotifyOnceSaid : Prop := lawS3767ANotifyOnceRow.holds Yba.pinned (OpenSpec.ofChange lawS3767ANotifyOnceSpec)

/-- ITS FALSE NEIGHBOUR: 'it returns false'. Refute it at one input. -/
def lawS3767ANotifyOnceWrong : ChangeSpec := { name := "lawS3767ANotifyOnce", fn := fun _ => fun
  | [d1, d2, d3, d4] => { results := [.lit (.bool false)], args := [d1, d2, d3, d4] }
  | _ => none }
def LawS3767ANotifyOnceWrongFalsely : Prop := lawS3767ANotifyOnceRow.holds Yba.pinned (OpenSpec.ofChange lawS3767ANotifyOnceWrong)

/-- 'stealdeck.LawS3767AScript': WHATEVER THE INPUT: true; the input reads as it did. -/
def lawS3767AScriptSpec : ChangeSpec := { name := "lawS3767AScript", fn := fun _ => fun
  | [d1, d2] => { results := [.lit (.bool true)], args := [d1, d2] }
  | _ => none }
def lawS3767AScriptRow : OpenClaim := { program := "ybulkbyzk", sum := "7d4e4576d57c87f719421af0e4517d19d588ed10a158cdf32806285ab006dda6", func := "example.com/stealdeck/stealdeck.LawS3767AScript", spec := "lawS3767AScript", inPlace := ["sync/atomic.StoreInt32", "sync/atomic.LoadInt32", "sync/atomic.CompareAndSwapInt32", "(*internal/sync.Mutex).Lock", "internal/race.Disable", "internal/race.Enable", "internal/race.Acquire", "(*internal/sync.Mutex).lockSlow", "internal/sync.runtime_canSpin", "internal/sync.runtime_doSpin", "internal/sync.throw", "internal/sync.runtime_nanotime", "internal/sync.runtime_SemacquireMutex", "sync/atomic.AddInt32", "(*internal/sync.Mutex).Unlock", "internal/race.ReleaseMerge", "(*internal/sync.Mutex).unlockSlow", "internal/sync.fatal", "internal/sync.runtime_Semrelease"], apart := false }
def LawS3767AScriptSaid : Prop := lawS3767AScriptRow.holds Yba.pinned (OpenSpec.ofChange lawS3767AScriptSpec)

/-- ITS FALSE NEIGHBOUR: 'it returns false'. Refute it at one input. -/
def lawS3767AScriptWrong : ChangeSpec := { name := "lawS3767AScript", fn := fun _ => fun
  | [d1, d2] => { results := [.lit (.bool false)], args := [d1, d2] }
  | _ => none }
def LawS3767AScriptWrongFalsely : Prop := lawS3767AScriptRow.holds Yba.pinned (OpenSpec.ofChange lawS3767AScriptWrong)

/-- 'stealdeck.LawS3767BNilWorker': WHATEVER THE INPUT: true; the input reads as it did. -/
def lawS3767BNilWorkerSpec : ChangeSpec := { name := "lawS3767BNilWorker", fn := fun _ => fun
  | [d1, d2] => { results := [.lit (.bool true)], args := [d1, d2] }
  | _ => none }
def lawS3767BNilWorkerRow : OpenClaim := { program := "ybulkbyzk", sum := "7d4e4576d57c87f719421af0e4517d19d588ed10a158cdf32806285ab006dda6", func := "example.com/stealdeck/stealdeck.LawS3767BNilWorker", spec := "lawS3767BNilWorker", inPlace := ["(*internal/sync.Mutex).Lock", "internal/race.Disable", "sync/atomic.CompareAndSwapInt32", "internal/race.Enable", "internal/race.Acquire", "(*internal/sync.Mutex).lockSlow", "internal/sync.runtime_canSpin", "internal/sync.runtime_doSpin", "internal/sync.throw", "internal/sync.runtime_nanotime", "internal/sync.runtime_SemacquireMutex", "sync/atomic.AddInt32", "(*internal/sync.Mutex).Unlock", "internal/race.ReleaseMerge", "(*internal/sync.Mutex).unlockSlow", "internal/sync.fatal", "internal/sync.runtime_Semrelease", "sync/atomic.LoadPointer", "sync/atomic.StorePointer"], apart := false }
def LawS3767BNilWorkerSaid : Prop := lawS3767BNilWorkerRow.holds Yba.pinned (OpenSpec.ofChange lawS3767BNilWorkerSpec)

/-- ITS FALSE NEIGHBOUR: 'it returns false'. Refute it at one input. -/
def lawS3767BNilWorkerWrong : ChangeSpec := { name := "lawS3767BNilWorker", fn := fun _ => fun
  | [d1, d2] => { results := [.lit (.bool false)], args := [d1, d2] }
  | _ => none }
def LawS3767BNilWorkerWrongFalsely : Prop := lawS3767BNilWorkerRow.holds Yba.pinned (OpenSpec.ofChange lawS3767BNilWorkerWrong)

/-- 'stealdeck.LawS3767BWorker': WHATEVER THE INPUT: true; the input reads as it did. -/
def lawS3767BWorkerSpec : ChangeSpec := { name := "lawS3767BWorker", fn := fun _ => fun
  | [d1, d2, d3] => { results := [.lit (.bool true)], args := [d1, d2, d3] }
  | _ => none }
def lawS3767BWorkerRow : OpenClaim := { program := "ybulkbyzk", sum := "7d4e4576d57c87f719421af0e4517d19d588ed10a158cdf32806285ab006dda6", func := "example.com/stealdeck/stealdeck.LawS3767BWorker", spec := "lawS3767BWorker", inPlace := ["(*internal/sync.Mutex).Lock", "internal/race.Disable", "sync/atomic.CompareAndSwapInt32", "internal/race.Enable", "internal/race.Acquire", "(*internal/sync.Mutex).lockSlow", "internal/sync.runtime_canSpin", "internal/sync.runtime_doSpin", "internal/sync.throw", "internal/sync.runtime_nanotime", "internal/sync.runtime_SemacquireMutex", "sync/atomic.AddInt32", "(*internal/sync.Mutex).Unlock", "internal/race.ReleaseMerge", "(*internal/sync.Mutex).unlockSlow", "internal/sync.fatal", "internal/sync.runtime_Semrelease", "sync/atomic.LoadPointer", "sync/atomic.StorePointer"], apart := false }
def LawS3767BWorkerSaid : Prop := lawS3767BWorkerRow.holds Yba.pinned (OpenSpec.ofChange lawS3767BWorkerSpec)

/-- ITS FALSE NEIGHBOUR: 'it returns false'. Refute it at one input. -/
def lawS3767BWorkerWrong : ChangeSpec := { name := "lawS3767BWorker", fn := fun _ => fun
  | [d1, d2, d3] => { results := [.lit (.bool false)], args := [d1, d2, d3] }
  | _ => none }
def LawS3767BWorkerWrongFalsely : Prop := lawS3767BWorkerRow.holds Yba.pinned (OpenSpec.ofChange lawS3767BWorkerWrong)

end Rows
end Go.Proofs.Ybulkbyzk
