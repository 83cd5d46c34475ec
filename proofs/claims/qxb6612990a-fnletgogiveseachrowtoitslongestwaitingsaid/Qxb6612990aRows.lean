/-
  No cell of these rows narrows 'for every input' (looked for: loops, veiled, ifaces, maps, wideKeys, modest, calm, conditions, laid).
  DERIVED. THE GIVEN ROWS OF THIS SEAT. 2 by the template 'for every input the law returns true; each argument reads behind the call as it read before'; 0 by the template 'total and deterministic' (their statements: Qxb6612990aTotals.lean).
  GIVEN WITH THE SEED: the statements are not yours to turn. If you find one false, say at which input.
  Laid BY PROGRAM, IN A SANDBOX (cutbox-rows.mjs): the forced cells as the released guide's own fill.sh prints them over the translation a94f745238e01041… (all of the seat's roots in one cut). By AI agents, Wed Nov 11 2026. No macro, syntax, notation, axiom, sorry.
-/
import Derived.Test.Qxb6612990aChecked
import GoSem.Claim
import GoSem.ClaimJoined
import GoSem.ClaimMapViews
import Derived.JoinedTies
import Derived.KernelRfl
namespace Go.Proofs.Qxb6612990a
/- THE CELL 'sum', in the pinned program and in every row, IS THE sha256 OF THE DUMP (.gsa) THAT Qxb6612990aProg.lean LOADS. Nothing in Lean hashes anything: it is a label: what it is worth is what the hold of that sum in a sandbox is worth. -/
noncomputable def Try.pinned : Pinned := { name := "qxb6612990a", sum := "a94f745238e010411e3f8a146454196aaec739f78540df0ee2cabab0382bc0c0", checked := Try.checked }
namespace Rows
def none {H : Type} : Left H := { results := [], args := [] }

/-- 'zzlaws_root_b1.FnNewCoordinatorsJoinAnyCut': WHATEVER THE INPUT: true; the input reads as it did. -/
def fnNewCoordinatorsJoinAnyCutSpec : ChangeSpec := { name := "fnNewCoordinatorsJoinAnyCut", fn := fun _ => fun
  | [d1, d2] => { results := [.lit (.bool true)], args := [d1, d2] }
  | _ => none }
def fnNewCoordinatorsJoinAnyCutRow : OpenClaim := { program := "qxb6612990a", sum := "a94f745238e010411e3f8a146454196aaec739f78540df0ee2cabab0382bc0c0", func := "example.com/ferrybook/ferrybook/zzlaws_root_b1.FnNewCoordinatorsJoinAnyCut", spec := "fnNewCoordinatorsJoinAnyCut", inPlace := ["sync/atomic.LoadUint64", "sync/atomic.LoadInt64"], apart := false }
def FnNewCoordinatorsJoinAnyCutSaid : Prop := fnNewCoordinatorsJoinAnyCutRow.holds Try.pinned (OpenSpec.ofChange fnNewCoordinatorsJoinAnyCutSpec)

/-- ITS FALSE NEIGHBOUR: 'it returns false'. Refute it at one input. -/
def fnNewCoordinatorsJoinAnyCutWrong : ChangeSpec := { name := "fnNewCoordinatorsJoinAnyCut", fn := fun _ => fun
  | [d1, d2] => { results := [.lit (.bool false)], args := [d1, d2] }
  | _ => none }
def FnNewCoordinatorsJoinAnyCutWrongFalsely : Prop := fnNewCoordinatorsJoinAnyCutRow.holds Try.pinned (OpenSpec.ofChange fnNewCoordinatorsJoinAnyCutWrong)

/-- 'zzlaws_root_b1.FnLetGoGivesEachRowToItsLongestWaiting': WHATEVER THE INPUT: true; the input reads as it did. -/
def fnLetGoGivesEachRowToItsLongestWaitingSpec : ChangeSpec := { name := "fnLetGoGivesEachRowToItsLongestWaiting", fn := fun _ => fun
  | [d1, d2] => { results := [.lit (.bool true)], args := [d1, d2] }
  | _ => none }
def fnLetGoGivesEachRowToItsLongestWaitingRow : OpenClaim := { program := "qxb6612990a", sum := "a94f745238e010411e3f8a146454196aaec739f78540df0ee2cabab0382bc0c0", func := "example.com/ferrybook/ferrybook/zzlaws_root_b1.FnLetGoGivesEachRowToItsLongestWaiting", spec := "fnLetGoGivesEachRowToItsLongestWaiting", inPlace := ["(*internal/sync.Mutex).Lock", "internal/race.Disable", "sync/atomic.CompareAndSwapInt32", "internal/race.Enable", "internal/race.Acquire", "(*internal/sync.Mutex).lockSlow", "internal/sync.runtime_canSpin", "internal/sync.runtime_doSpin", "internal/sync.throw", "internal/sync.runtime_nanotime", "internal/sync.runtime_SemacquireMutex", "sync/atomic.AddInt32", "(*internal/sync.Mutex).Unlock", "internal/race.ReleaseMerge", "(*internal/sync.Mutex).unlockSlow", "internal/sync.fatal", "internal/sync.runtime_Semrelease"], apart := false }
def FnLetGoGivesEachRowToItsLongestWaitingSaid : Prop := fnLetGoGivesEachRowToItsLongestWaitingRow.holds Try.pinned (OpenSpec.ofChange fnLetGoGivesEachRowToItsLongestWaitingSpec)

/-- ITS FALSE NEIGHBOUR: 'it returns false'. Refute it at one input. -/
def fnLetGoGivesEachRowToItsLongestWaitingWrong : ChangeSpec := { name := "fnLetGoGivesEachRowToItsLongestWaiting", fn := fun _ => fun
  | [d1, d2] => { results := [.lit (.bool false)], args := [d1, d2] }
  | _ => none }
def FnLetGoGivesEachRowToItsLongestWaitingWrongFalsely : Prop := fnLetGoGivesEachRowToItsLongestWaitingRow.holds Try.pinned (OpenSpec.ofChange fnLetGoGivesEachRowToItsLongestWaitingWrong)

end Rows
end Go.Proofs.Qxb6612990a
