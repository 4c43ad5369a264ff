/-
  No cell of these rows narrows 'for every input' (looked for: loops, veiled, ifaces, maps, wideKeys, modest, calm, conditions, laid).
  DERIVED. THE GIVEN ROWS OF THIS SEAT. 4 by the template 'for every input the law returns true; each argument reads behind the call as it read before'; 0 by the template 'total and deterministic' (their statements: YbulknqgTotals.lean).
  GIVEN WITH THE SEED: the statements are not yours to turn. If you find one false, say at which input.
  Laid BY PROGRAM, IN A SANDBOX (cutbox-rows.mjs): the forced cells as the released guide's own fill.sh prints them over the translation 058c9f156df89824… (all of the seat's roots in one cut). By AI agents, Wed Nov 11 2026. No macro, syntax, notation, axiom, sorry.
-/
import Derived.Test.YbulknqgChecked
import GoSem.Claim
import GoSem.ClaimJoined
import GoSem.ClaimMapViews
import Derived.JoinedTies
import Derived.KernelRfl
namespace Go.Proofs.Ybulknqg
/- THE CELL 'sum', in the pinned program and in every row, IS THE sha256 OF THE DUMP (.gsa) THAT YbulknqgProg.lean LOADS. Nothing in Lean hashes anything: it is a label: what it is worth is what the hold of that sum in a sandbox is worth. -/
noncomputable def Yba.pinned : Pinned := { name := "ybulknqg", sum := "058c9f156df8982498fb263b8da0abca3a1386782a40de6d8394b586f1cdfdd8", checked := Yba.checked }
namespace Rows
def none {H : Type} : Left H := { results := [], args := [] }

/-- 'ladron.LawS0708AOrder': WHATEVER THE INPUT: true; the input reads as it did. -/
def lawS0708AOrderSpec : ChangeSpec := { name := "lawS0708AOrder", fn := fun _ => fun
  | [d1, d2] => { results := [.lit (.bool true)], args := [d1, d2] }
  | _ => none }
def lawS0708AOrderRow : OpenClaim := { program := "ybulknqg", sum := "058c9f156df8982498fb263b8da0abca3a1386782a40de6d8394b586f1cdfdd8", func := "example.com/ladron/ladron.LawS0708AOrder", spec := "lawS0708AOrder", inPlace := ["sync/atomic.LoadUint32", "sync/atomic.LoadUint64", "sync/atomic.LoadPointer", "sync/atomic.StorePointer", "sync/atomic.StoreUint32", "sync/atomic.CompareAndSwapUint64"], apart := false }
def LawS0708AOrderSaid : Prop := lawS0708AOrderRow.holds Yba.pinned (OpenSpec.ofChange lawS0708AOrderSpec)

/-- ITS FALSE NEIGHBOUR: 'it returns false'. Refute it at one input. -/
def lawS0708AOrderWrong : ChangeSpec := { name := "lawS0708AOrder", fn := fun _ => fun
  | [d1, d2] => { results := [.lit (.bool false)], args := [d1, d2] }
  | _ => none }
def LawS0708AOrderWrongFalsely : Prop := lawS0708AOrderRow.holds Yba.pinned (OpenSpec.ofChange lawS0708AOrderWrong)

/-- 'ladron.LawS0708AOldest': WHATEVER THE INPUT: true; the input reads as it did. -/
def lawS0708AOldestSpec : ChangeSpec := { name := "lawS0708AOldest", fn := fun _ => fun
  | [d] => { results := [.lit (.bool true)], args := [d] }
  | _ => none }
def lawS0708AOldestRow : OpenClaim := { program := "ybulknqg", sum := "058c9f156df8982498fb263b8da0abca3a1386782a40de6d8394b586f1cdfdd8", func := "example.com/ladron/ladron.LawS0708AOldest", spec := "lawS0708AOldest", inPlace := ["sync/atomic.LoadUint32", "sync/atomic.LoadUint64", "sync/atomic.LoadPointer", "sync/atomic.StorePointer", "sync/atomic.StoreUint32", "sync/atomic.CompareAndSwapUint64"], apart := false }
def LawS0708AOldestSaid : Prop := lawS0708AOldestRow.holds Yba.pinned (OpenSpec.ofChange lawS0708AOldestSpec)

/-- ITS FALSE NEIGHBOUR: 'it returns false'. Refute it at one input. -/
def lawS0708AOldestWrong : ChangeSpec := { name := "lawS0708AOldest", fn := fun _ => fun
  | [d] => { results := [.lit (.bool false)], args := [d] }
  | _ => none }
def LawS0708AOldestWrongFalsely : Prop := lawS0708AOldestRow.holds Yba.pinned (OpenSpec.ofChange lawS0708AOldestWrong)

/-- 'ladron.LawS0708CCounts': WHATEVER THE INPUT: true; the input reads as it did. -/
def lawS0708CCountsSpec : ChangeSpec := { name := "lawS0708CCounts", fn := fun _ => fun
  | [d1, d2] => { results := [.lit (.bool true)], args := [d1, d2] }
  | _ => none }
def lawS0708CCountsRow : OpenClaim := { program := "ybulknqg", sum := "058c9f156df8982498fb263b8da0abca3a1386782a40de6d8394b586f1cdfdd8", func := "example.com/ladron/ladron.LawS0708CCounts", spec := "lawS0708CCounts", inPlace := ["sync/atomic.StoreInt32", "sync/atomic.LoadInt32", "(*internal/sync.Mutex).Lock", "internal/race.Disable", "sync/atomic.CompareAndSwapInt32", "internal/race.Enable", "internal/race.Acquire", "(*internal/sync.Mutex).lockSlow", "internal/sync.runtime_canSpin", "internal/sync.runtime_doSpin", "internal/sync.throw", "internal/sync.runtime_nanotime", "internal/sync.runtime_SemacquireMutex", "sync/atomic.AddInt32", "(*sync.Cond).Signal", "(*sync.copyChecker).check", "sync.runtime_notifyListNotifyOne", "(*internal/sync.Mutex).Unlock", "internal/race.ReleaseMerge", "(*internal/sync.Mutex).unlockSlow", "internal/sync.fatal", "internal/sync.runtime_Semrelease", "(*internal/sync.Mutex).TryLock"], apart := false }
def LawS0708CCountsSaid : Prop := lawS0708CCountsRow.holds Yba.pinned (OpenSpec.ofChange lawS0708CCountsSpec)

/-- ITS FALSE NEIGHBOUR: 'it returns false'. Refute it at one input. -/
def lawS0708CCountsWrong : ChangeSpec := { name := "lawS0708CCounts", fn := fun _ => fun
  | [d1, d2] => { results := [.lit (.bool false)], args := [d1, d2] }
  | _ => none }
def LawS0708CCountsWrongFalsely : Prop := lawS0708CCountsRow.holds Yba.pinned (OpenSpec.ofChange lawS0708CCountsWrong)

/-- 'ladron.LawS0708CTwice': WHATEVER THE INPUT: true; the input reads as it did. -/
def lawS0708CTwiceSpec : ChangeSpec := { name := "lawS0708CTwice", fn := fun _ => fun
  | [d1, d2] => { results := [.lit (.bool true)], args := [d1, d2] }
  | _ => none }
def lawS0708CTwiceRow : OpenClaim := { program := "ybulknqg", sum := "058c9f156df8982498fb263b8da0abca3a1386782a40de6d8394b586f1cdfdd8", func := "example.com/ladron/ladron.LawS0708CTwice", spec := "lawS0708CTwice", inPlace := ["sync/atomic.StoreInt32", "sync/atomic.LoadInt32", "(*internal/sync.Mutex).Lock", "internal/race.Disable", "sync/atomic.CompareAndSwapInt32", "internal/race.Enable", "internal/race.Acquire", "(*internal/sync.Mutex).lockSlow", "internal/sync.runtime_canSpin", "internal/sync.runtime_doSpin", "internal/sync.throw", "internal/sync.runtime_nanotime", "internal/sync.runtime_SemacquireMutex", "sync/atomic.AddInt32", "(*sync.Cond).Signal", "(*sync.copyChecker).check", "sync.runtime_notifyListNotifyOne", "(*internal/sync.Mutex).Unlock", "internal/race.ReleaseMerge", "(*internal/sync.Mutex).unlockSlow", "internal/sync.fatal", "internal/sync.runtime_Semrelease"], apart := false }
def LawS0708CTwiceSaid : Prop := lawS0708CTwiceRow.holds Yba.pinned (OpenSpec.ofChange lawS0708CTwiceSpec)

/-- ITS FALSE NEIGHBOUR: 'it returns false'. Refute it at one input. -/
def lawS0708CTwiceWrong : ChangeSpec := { name := "lawS0708CTwice", fn := fun _ => fun
  | [d1, d2] => { results := [.lit (.bool false)], args := [d1, d2] }
  | _ => none }
def LawS0708CTwiceWrongFalsely : Prop := lawS0708CTwiceRow.holds Yba.pinned (OpenSpec.ofChange lawS0708CTwiceWrong)

end Rows
end Go.Proofs.Ybulknqg
