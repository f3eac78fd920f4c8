/-
  No cell of these rows narrows 'for every input' (looked for: loops, veiled, ifaces, maps, wideKeys, modest, calm, conditions, laid).
  DERIVED. THE GIVEN ROWS OF THIS SEAT. 1 by the template 'for every input the law returns true; each argument reads behind the call as it read before'; 0 by the template 'total and deterministic' (their statements: YbulkfeocTotals.lean).
  GIVEN WITH THE SEED: the statements are not yours to turn. If you find one false, say at which input.
  Laid BY PROGRAM, IN A SANDBOX (cutbox-rows.mjs): the forced cells as the released guide's own fill.sh prints them over the translation 49c79be1e6b42401… (all of the seat's roots in one cut). By AI agents, Wed Nov 11 2026. No macro, syntax, notation, axiom, sorry.
-/
import Derived.Test.YbulkfeocChecked
import GoSem.Claim
import GoSem.ClaimJoined
import GoSem.ClaimMapViews
import Derived.JoinedTies
import Derived.KernelRfl
namespace Go.Proofs.Ybulkfeoc
/- THE CELL 'sum', in the pinned program and in every row, IS THE sha256 OF THE DUMP (.gsa) THAT YbulkfeocProg.lean LOADS. Nothing in Lean hashes anything: it is a label: what it is worth is what the hold of that sum in a sandbox is worth. -/
noncomputable def Yba.pinned : Pinned := { name := "ybulkfeoc", sum := "49c79be1e6b42401ba5595b7153c6527922341d74774f00562a4735b5263de57", checked := Yba.checked }
namespace Rows
def none {H : Type} : Left H := { results := [], args := [] }

/-- 'erne.LawS7802BWhole': WHATEVER THE INPUT: true; the input reads as it did. -/
def lawS7802BWholeSpec : ChangeSpec := { name := "lawS7802BWhole", fn := fun _ => fun
  | [d1, d2, d3, d4] => { results := [.lit (.bool true)], args := [d1, d2, d3, d4] }
  | _ => none }
def lawS7802BWholeRow : OpenClaim := { program := "ybulkfeoc", sum := "49c79be1e6b42401ba5595b7153c6527922341d74774f00562a4735b5263de57", func := "example.com/erne/erne.LawS7802BWhole", spec := "lawS7802BWhole", inPlace := ["sync/atomic.StoreInt32", "sync/atomic.StoreUint32", "sync/atomic.LoadInt64", "sync/atomic.StoreInt64", "sync/atomic.LoadPointer", "sync/atomic.StorePointer", "(*internal/sync.Mutex).Lock", "internal/race.Disable", "sync/atomic.CompareAndSwapInt32", "internal/race.Enable", "internal/race.Acquire", "(*internal/sync.Mutex).lockSlow", "internal/sync.runtime_canSpin", "internal/sync.runtime_doSpin", "internal/sync.throw", "internal/sync.runtime_nanotime", "internal/sync.runtime_SemacquireMutex", "sync/atomic.AddInt32", "(*internal/sync.Mutex).Unlock", "internal/race.ReleaseMerge", "(*internal/sync.Mutex).unlockSlow", "internal/sync.fatal", "internal/sync.runtime_Semrelease", "sync/atomic.LoadUint32", "sync/atomic.LoadInt32", "(*sync.Cond).Signal", "(*sync.copyChecker).check", "sync.runtime_notifyListNotifyOne", "(*internal/sync.Mutex).TryLock", "sync/atomic.CompareAndSwapInt64"], apart := false }
def LawS7802BWholeSaid : Prop := lawS7802BWholeRow.holds Yba.pinned (OpenSpec.ofChange lawS7802BWholeSpec)

/-- ITS FALSE NEIGHBOUR: 'it returns false'. Refute it at one input. -/
def lawS7802BWholeWrong : ChangeSpec := { name := "lawS7802BWhole", fn := fun _ => fun
  | [d1, d2, d3, d4] => { results := [.lit (.bool false)], args := [d1, d2, d3, d4] }
  | _ => none }
def LawS7802BWholeWrongFalsely : Prop := lawS7802BWholeRow.holds Yba.pinned (OpenSpec.ofChange lawS7802BWholeWrong)

end Rows
end Go.Proofs.Ybulkfeoc
