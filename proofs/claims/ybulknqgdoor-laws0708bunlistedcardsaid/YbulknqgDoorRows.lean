/-
  NARROWER THAN 'FOR EVERY INPUT', by the rows' own cells (each row's printed sentence says how): LawS0708BEmpty: ifaces, laid · LawS0708BUnlisted: ifaces, laid.
  DERIVED. THE GIVEN ROWS OF THIS SEAT. 2 by the template 'for every input the law returns true; each argument reads behind the call as it read before'; 0 by the template 'total and deterministic' (their statements: YbulknqgDoorTotals.lean).
  GIVEN WITH THE SEED: the statements are not yours to turn. If you find one false, say at which input.
  Laid BY PROGRAM, IN A SANDBOX (cutbox-rows.mjs): the forced cells as the released guide's own fill.sh prints them over the translation 7e92e9a6a1b95a1d… (all of the seat's roots in one cut). By AI agents, Wed Nov 11 2026. No macro, syntax, notation, axiom, sorry.
-/
import Derived.Test.YbulknqgDoorChecked
import GoSem.Claim
import GoSem.ClaimJoined
import GoSem.ClaimMapViews
import Derived.JoinedTies
import Derived.KernelRfl
namespace Go.Proofs.YbulknqgDoor
/- THE CELL 'sum', in the pinned program and in every row, IS THE sha256 OF THE DUMP (.gsa) THAT YbulknqgDoorProg.lean LOADS. Nothing in Lean hashes anything: it is a label: what it is worth is what the hold of that sum in a sandbox is worth. -/
noncomputable def Ybad.pinned : Pinned := { name := "ybulknqgdoor", sum := "7e92e9a6a1b95a1d78b1f1fc04738ec5079ac31db52ed5db329ae7919a4e1013", checked := Ybad.checked }
namespace Rows
def none {H : Type} : Left H := { results := [], args := [] }

/- WHAT THE LISTED PACKAGE-LEVEL VARIABLES READ AS WHEN THE CALL BEGINS. Each datum BY PROGRAM (the guide's laid-datum.mjs) off the statement by which the dump's own 'gosem.cut.vars' lays the variable. In a bare row this is a premise. The card (YbulknqgDoorCards.lean) ties it to the program's text. -/
def laid_example_com_ladron_ladron_ErrClosed {H : Type} : DataW H := .iface "*errors.errorString" (.ptr (.agg [.lit (.string [108, 97, 100, 114, 111, 110, 58, 32, 115, 99, 104, 101, 100, 117, 108, 101, 114, 32, 105, 115, 32, 115, 104, 117, 116, 32, 100, 111, 119, 110])]))
def laid_example_com_ladron_ladron_ErrNoProcess {H : Type} : DataW H := .iface "*errors.errorString" (.ptr (.agg [.lit (.string [108, 97, 100, 114, 111, 110, 58, 32, 110, 111, 32, 108, 105, 118, 101, 32, 112, 114, 111, 99, 101, 115, 115, 32, 104, 97, 115, 32, 116, 104, 97, 116, 32, 80, 73, 68])]))
def laid_example_com_ladron_ladron_ErrUnknownYield {H : Type} : DataW H := .iface "*errors.errorString" (.ptr (.agg [.lit (.string [108, 97, 100, 114, 111, 110, 58, 32, 116, 104, 101, 32, 112, 114, 111, 99, 101, 115, 115, 32, 104, 97, 115, 32, 110, 111, 32, 121, 105, 101, 108, 100, 32, 116, 111, 32, 99, 111, 109, 112, 108, 101, 116, 101, 32, 117, 110, 100, 101, 114, 32, 116, 104, 97, 116, 32, 116, 97, 103])]))

/-- 'ladron.LawS0708BEmpty': WHATEVER THE INPUT: true; the input reads as it did. -/
def lawS0708BEmptySpec : ChangeSpec := { name := "lawS0708BEmpty", vars := ["example.com/ladron/ladron.ErrNoProcess", "example.com/ladron/ladron.ErrUnknownYield", "example.com/ladron/ladron.ErrClosed"], fn := fun _ => fun
  | [d1, d2, g1, g2, g3] => { results := [.lit (.bool true)], args := [d1, d2], vars := [g1, g2, g3] }
  | _ => none }
def lawS0708BEmptyRow : OpenClaim := { program := "ybulknqgdoor", sum := "7e92e9a6a1b95a1d78b1f1fc04738ec5079ac31db52ed5db329ae7919a4e1013", func := "example.com/ladron/ladron.LawS0708BEmpty", spec := "lawS0708BEmpty", inPlace := ["sync/atomic.LoadPointer", "sync/atomic.LoadUint32", "(*internal/sync.Mutex).Lock", "internal/race.Disable", "sync/atomic.CompareAndSwapInt32", "internal/race.Enable", "internal/race.Acquire", "(*internal/sync.Mutex).lockSlow", "internal/sync.runtime_canSpin", "internal/sync.runtime_doSpin", "internal/sync.throw", "internal/sync.runtime_nanotime", "internal/sync.runtime_SemacquireMutex", "sync/atomic.AddInt32", "(*internal/sync.Mutex).Unlock", "internal/race.ReleaseMerge", "(*internal/sync.Mutex).unlockSlow", "internal/sync.fatal", "internal/sync.runtime_Semrelease", "sync/atomic.LoadInt32", "(*sync.Cond).Signal", "(*sync.copyChecker).check", "sync.runtime_notifyListNotifyOne"], named := ["example.com/ladron/ladron.ErrNoProcess", "example.com/ladron/ladron.ErrUnknownYield", "example.com/ladron/ladron.ErrClosed"], ifaces := true, apart := false, laid := [("example.com/ladron/ladron.ErrClosed", laid_example_com_ladron_ladron_ErrClosed), ("example.com/ladron/ladron.ErrNoProcess", laid_example_com_ladron_ladron_ErrNoProcess), ("example.com/ladron/ladron.ErrUnknownYield", laid_example_com_ladron_ladron_ErrUnknownYield)] }
def LawS0708BEmptySaid : Prop := lawS0708BEmptyRow.holds Ybad.pinned (OpenSpec.ofChange lawS0708BEmptySpec)

/-- ITS FALSE NEIGHBOUR: 'it returns false'. Refute it at one input. -/
def lawS0708BEmptyWrong : ChangeSpec := { name := "lawS0708BEmpty", vars := ["example.com/ladron/ladron.ErrNoProcess", "example.com/ladron/ladron.ErrUnknownYield", "example.com/ladron/ladron.ErrClosed"], fn := fun _ => fun
  | [d1, d2, g1, g2, g3] => { results := [.lit (.bool false)], args := [d1, d2], vars := [g1, g2, g3] }
  | _ => none }
def LawS0708BEmptyWrongFalsely : Prop := lawS0708BEmptyRow.holds Ybad.pinned (OpenSpec.ofChange lawS0708BEmptyWrong)

/-- 'ladron.LawS0708BUnlisted': WHATEVER THE INPUT: true; the input reads as it did. -/
def lawS0708BUnlistedSpec : ChangeSpec := { name := "lawS0708BUnlisted", vars := ["example.com/ladron/ladron.ErrNoProcess", "example.com/ladron/ladron.ErrUnknownYield", "example.com/ladron/ladron.ErrClosed"], fn := fun _ => fun
  | [d1, d2, d3, d4, d5, d6, g1, g2, g3] => { results := [.lit (.bool true)], args := [d1, d2, d3, d4, d5, d6], vars := [g1, g2, g3] }
  | _ => none }
def lawS0708BUnlistedRow : OpenClaim := { program := "ybulknqgdoor", sum := "7e92e9a6a1b95a1d78b1f1fc04738ec5079ac31db52ed5db329ae7919a4e1013", func := "example.com/ladron/ladron.LawS0708BUnlisted", spec := "lawS0708BUnlisted", inPlace := ["sync/atomic.StoreUint32", "sync/atomic.StorePointer", "sync/atomic.LoadPointer", "sync/atomic.LoadUint32", "(*internal/sync.Mutex).Lock", "internal/race.Disable", "sync/atomic.CompareAndSwapInt32", "internal/race.Enable", "internal/race.Acquire", "(*internal/sync.Mutex).lockSlow", "internal/sync.runtime_canSpin", "internal/sync.runtime_doSpin", "internal/sync.throw", "internal/sync.runtime_nanotime", "internal/sync.runtime_SemacquireMutex", "sync/atomic.AddInt32", "(*internal/sync.Mutex).Unlock", "internal/race.ReleaseMerge", "(*internal/sync.Mutex).unlockSlow", "internal/sync.fatal", "internal/sync.runtime_Semrelease", "sync/atomic.LoadInt32", "(*sync.Cond).Signal", "(*sync.copyChecker).check", "sync.runtime_notifyListNotifyOne"], named := ["example.com/ladron/ladron.ErrNoProcess", "example.com/ladron/ladron.ErrUnknownYield", "example.com/ladron/ladron.ErrClosed"], ifaces := true, apart := false, laid := [("example.com/ladron/ladron.ErrClosed", laid_example_com_ladron_ladron_ErrClosed), ("example.com/ladron/ladron.ErrNoProcess", laid_example_com_ladron_ladron_ErrNoProcess), ("example.com/ladron/ladron.ErrUnknownYield", laid_example_com_ladron_ladron_ErrUnknownYield)] }
def LawS0708BUnlistedSaid : Prop := lawS0708BUnlistedRow.holds Ybad.pinned (OpenSpec.ofChange lawS0708BUnlistedSpec)

/-- ITS FALSE NEIGHBOUR: 'it returns false'. Refute it at one input. -/
def lawS0708BUnlistedWrong : ChangeSpec := { name := "lawS0708BUnlisted", vars := ["example.com/ladron/ladron.ErrNoProcess", "example.com/ladron/ladron.ErrUnknownYield", "example.com/ladron/ladron.ErrClosed"], fn := fun _ => fun
  | [d1, d2, d3, d4, d5, d6, g1, g2, g3] => { results := [.lit (.bool false)], args := [d1, d2, d3, d4, d5, d6], vars := [g1, g2, g3] }
  | _ => none }
def LawS0708BUnlistedWrongFalsely : Prop := lawS0708BUnlistedRow.holds Ybad.pinned (OpenSpec.ofChange lawS0708BUnlistedWrong)

end Rows
end Go.Proofs.YbulknqgDoor
