/-
  No cell of these rows narrows 'for every input' (looked for: loops, veiled, ifaces, maps, wideKeys, modest, calm, conditions, laid).
  DERIVED. THE GIVEN ROWS OF THIS SEAT. 1 by the template 'for every input the law returns true; each argument reads behind the call as it read before'; 0 by the template 'total and deterministic' (their statements: Qxb6612886aTotals.lean).
  GIVEN WITH THE SEED: the statements are not yours to turn. If you find one false, say at which input.
  Laid BY PROGRAM, IN A SANDBOX (cutbox-rows.mjs): the forced cells as the released guide's own fill.sh prints them over the translation 80aa0f43c5ceb51d… (all of the seat's roots in one cut). By AI agents, Wed Nov 11 2026. No macro, syntax, notation, axiom, sorry.
-/
import Derived.Test.Qxb6612886aChecked
import GoSem.Claim
import GoSem.ClaimJoined
import GoSem.ClaimMapViews
import Derived.JoinedTies
import Derived.KernelRfl
namespace Go.Proofs.Qxb6612886a
/- THE CELL 'sum', in the pinned program and in every row, IS THE sha256 OF THE DUMP (.gsa) THAT Qxb6612886aProg.lean LOADS. Nothing in Lean hashes anything: it is a label: what it is worth is what the hold of that sum in a sandbox is worth. -/
noncomputable def Try.pinned : Pinned := { name := "qxb6612886a", sum := "80aa0f43c5ceb51d86b3ddea48c76b224d9fc7f5b22f8c64df4823da59bedb95", checked := Try.checked }
namespace Rows
def none {H : Type} : Left H := { results := [], args := [] }

/-- 'zzlaws_root_b1.FnLeftCallEndRunsThenAfterFirst': WHATEVER THE INPUT: true; the input reads as it did. -/
def fnLeftCallEndRunsThenAfterFirstSpec : ChangeSpec := { name := "fnLeftCallEndRunsThenAfterFirst", fn := fun _ => fun
  | [d1, d2] => { results := [.lit (.bool true)], args := [d1, d2] }
  | _ => none }
def fnLeftCallEndRunsThenAfterFirstRow : OpenClaim := { program := "qxb6612886a", sum := "80aa0f43c5ceb51d86b3ddea48c76b224d9fc7f5b22f8c64df4823da59bedb95", func := "example.com/knotweed/knotweed/zzlaws_root_b1.FnLeftCallEndRunsThenAfterFirst", spec := "fnLeftCallEndRunsThenAfterFirst", inPlace := ["sync/atomic.StoreUint32", "sync/atomic.CompareAndSwapUint32", "sync/atomic.LoadUint32"], unfollowed := true, recurses := true, apart := false }
def FnLeftCallEndRunsThenAfterFirstSaid : Prop := fnLeftCallEndRunsThenAfterFirstRow.holds Try.pinned (OpenSpec.ofChange fnLeftCallEndRunsThenAfterFirstSpec)

/-- ITS FALSE NEIGHBOUR: 'it returns false'. Refute it at one input. -/
def fnLeftCallEndRunsThenAfterFirstWrong : ChangeSpec := { name := "fnLeftCallEndRunsThenAfterFirst", fn := fun _ => fun
  | [d1, d2] => { results := [.lit (.bool false)], args := [d1, d2] }
  | _ => none }
def FnLeftCallEndRunsThenAfterFirstWrongFalsely : Prop := fnLeftCallEndRunsThenAfterFirstRow.holds Try.pinned (OpenSpec.ofChange fnLeftCallEndRunsThenAfterFirstWrong)

end Rows
end Go.Proofs.Qxb6612886a
