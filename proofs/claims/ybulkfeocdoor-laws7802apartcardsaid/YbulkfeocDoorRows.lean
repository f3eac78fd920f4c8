/-
  NARROWER THAN 'FOR EVERY INPUT', by the rows' own cells (each row's printed sentence says how): LawS7802APart: ifaces, laid.
  DERIVED. THE GIVEN ROWS OF THIS SEAT. 1 by the template 'for every input the law returns true; each argument reads behind the call as it read before'; 0 by the template 'total and deterministic' (their statements: YbulkfeocDoorTotals.lean).
  GIVEN WITH THE SEED: the statements are not yours to turn. If you find one false, say at which input.
  Laid BY PROGRAM, IN A SANDBOX (cutbox-rows.mjs): the forced cells as the released guide's own fill.sh prints them over the translation b8d1d7c6122d0b18… (all of the seat's roots in one cut). By AI agents, Wed Nov 11 2026. No macro, syntax, notation, axiom, sorry.
-/
import Derived.Test.YbulkfeocDoorChecked
import GoSem.Claim
import GoSem.ClaimJoined
import GoSem.ClaimMapViews
import Derived.JoinedTies
import Derived.KernelRfl
namespace Go.Proofs.YbulkfeocDoor
/- THE CELL 'sum', in the pinned program and in every row, IS THE sha256 OF THE DUMP (.gsa) THAT YbulkfeocDoorProg.lean LOADS. Nothing in Lean hashes anything: it is a label: what it is worth is what the hold of that sum in a sandbox is worth. -/
noncomputable def Ybad.pinned : Pinned := { name := "ybulkfeocdoor", sum := "b8d1d7c6122d0b18063ad05e909f352c25e3ae7824f772abbd72118d8eed358a", checked := Ybad.checked }
namespace Rows
def none {H : Type} : Left H := { results := [], args := [] }

/- WHAT THE LISTED PACKAGE-LEVEL VARIABLES READ AS WHEN THE CALL BEGINS. Each datum BY PROGRAM (the guide's laid-datum.mjs) off the statement by which the dump's own 'gosem.cut.vars' lays the variable. In a bare row this is a premise. The card (YbulkfeocDoorCards.lean) ties it to the program's text. -/
def laid_example_com_erne_erne_ErrClosed {H : Type} : DataW H := .iface "*errors.errorString" (.ptr (.agg [.lit (.string [101, 114, 110, 101, 58, 32, 115, 99, 104, 101, 100, 117, 108, 101, 114, 32, 99, 108, 111, 115, 101, 100])]))

/-- 'erne.LawS7802APart': WHATEVER THE INPUT: true; the input reads as it did. -/
def lawS7802APartSpec : ChangeSpec := { name := "lawS7802APart", vars := ["example.com/erne/erne.ErrClosed"], fn := fun _ => fun
  | [d1, d2, d3, d4, d5, d6, g1] => { results := [.lit (.bool true)], args := [d1, d2, d3, d4, d5, d6], vars := [g1] }
  | _ => none }
def lawS7802APartRow : OpenClaim := { program := "ybulkfeocdoor", sum := "b8d1d7c6122d0b18063ad05e909f352c25e3ae7824f772abbd72118d8eed358a", func := "example.com/erne/erne.LawS7802APart", spec := "lawS7802APart", inPlace := ["sync/atomic.StoreInt64", "sync/atomic.StoreUint32", "sync/atomic.AddInt64", "sync/atomic.LoadUint32", "(*internal/sync.Mutex).Lock", "internal/race.Disable", "sync/atomic.CompareAndSwapInt32", "internal/race.Enable", "internal/race.Acquire", "(*internal/sync.Mutex).lockSlow", "internal/sync.runtime_canSpin", "internal/sync.runtime_doSpin", "internal/sync.throw", "internal/sync.runtime_nanotime", "internal/sync.runtime_SemacquireMutex", "sync/atomic.AddInt32", "(*internal/sync.Mutex).Unlock", "internal/race.ReleaseMerge", "(*internal/sync.Mutex).unlockSlow", "internal/sync.fatal", "internal/sync.runtime_Semrelease", "sync/atomic.StoreInt32", "sync/atomic.LoadPointer", "sync/atomic.StorePointer", "sync/atomic.LoadInt64"], unfollowed := true, recurses := true, named := ["example.com/erne/erne.ErrClosed"], ifaces := true, apart := false, laid := [("example.com/erne/erne.ErrClosed", laid_example_com_erne_erne_ErrClosed)] }
def LawS7802APartSaid : Prop := lawS7802APartRow.holds Ybad.pinned (OpenSpec.ofChange lawS7802APartSpec)

/-- ITS FALSE NEIGHBOUR: 'it returns false'. Refute it at one input. -/
def lawS7802APartWrong : ChangeSpec := { name := "lawS7802APart", vars := ["example.com/erne/erne.ErrClosed"], fn := fun _ => fun
  | [d1, d2, d3, d4, d5, d6, g1] => { results := [.lit (.bool false)], args := [d1, d2, d3, d4, d5, d6], vars := [g1] }
  | _ => none }
def LawS7802APartWrongFalsely : Prop := lawS7802APartRow.holds Ybad.pinned (OpenSpec.ofChange lawS7802APartWrong)

end Rows
end Go.Proofs.YbulkfeocDoor
