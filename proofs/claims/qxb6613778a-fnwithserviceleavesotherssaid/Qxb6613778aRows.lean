/-
  No cell of these rows narrows 'for every input' (looked for: loops, veiled, ifaces, maps, wideKeys, modest, calm, conditions, laid).
  DERIVED. THE GIVEN ROWS OF THIS SEAT. 2 by the template 'for every input the law returns true; each argument reads behind the call as it read before'; 0 by the template 'total and deterministic' (their statements: Qxb6613778aTotals.lean).
  GIVEN WITH THE SEED: the statements are not yours to turn. If you find one false, say at which input.
  Laid BY PROGRAM, IN A SANDBOX (cutbox-rows.mjs): the forced cells as the released guide's own fill.sh prints them over the translation 567d9fbf1a98b5a8… (all of the seat's roots in one cut). By AI agents, Wed Nov 11 2026. No macro, syntax, notation, axiom, sorry.
-/
import Derived.Test.Qxb6613778aChecked
import GoSem.Claim
import GoSem.ClaimJoined
import GoSem.ClaimMapViews
import Derived.JoinedTies
import Derived.KernelRfl
namespace Go.Proofs.Qxb6613778a
/- THE CELL 'sum', in the pinned program and in every row, IS THE sha256 OF THE DUMP (.gsa) THAT Qxb6613778aProg.lean LOADS. Nothing in Lean hashes anything: it is a label: what it is worth is what the hold of that sum in a sandbox is worth. -/
noncomputable def Try.pinned : Pinned := { name := "qxb6613778a", sum := "567d9fbf1a98b5a8ae225399f2039e5ea2248d9523f83e61b9caebedde493e15", checked := Try.checked }
namespace Rows
def none {H : Type} : Left H := { results := [], args := [] }

/-- 'zzlaws_root_b1.FnServiceQueueInjectiveOrdered': WHATEVER THE INPUT: true; the input reads as it did. -/
def fnServiceQueueInjectiveOrderedSpec : ChangeSpec := { name := "fnServiceQueueInjectiveOrdered", fn := fun _ => fun
  | [d1, d2] => { results := [.lit (.bool true)], args := [d1, d2] }
  | _ => none }
def fnServiceQueueInjectiveOrderedRow : OpenClaim := { program := "qxb6613778a", sum := "567d9fbf1a98b5a8ae225399f2039e5ea2248d9523f83e61b9caebedde493e15", func := "example.com/ravenpost/ravenpost/zzlaws_root_b1.FnServiceQueueInjectiveOrdered", spec := "fnServiceQueueInjectiveOrdered", apart := false }
def FnServiceQueueInjectiveOrderedSaid : Prop := fnServiceQueueInjectiveOrderedRow.holds Try.pinned (OpenSpec.ofChange fnServiceQueueInjectiveOrderedSpec)

/-- ITS FALSE NEIGHBOUR: 'it returns false'. Refute it at one input. -/
def fnServiceQueueInjectiveOrderedWrong : ChangeSpec := { name := "fnServiceQueueInjectiveOrdered", fn := fun _ => fun
  | [d1, d2] => { results := [.lit (.bool false)], args := [d1, d2] }
  | _ => none }
def FnServiceQueueInjectiveOrderedWrongFalsely : Prop := fnServiceQueueInjectiveOrderedRow.holds Try.pinned (OpenSpec.ofChange fnServiceQueueInjectiveOrderedWrong)

/-- 'zzlaws_root_b1.FnWithServiceLeavesOthers': WHATEVER THE INPUT: true; the input reads as it did. -/
def fnWithServiceLeavesOthersSpec : ChangeSpec := { name := "fnWithServiceLeavesOthers", fn := fun _ => fun
  | [d1, d2, d3, d4, d5, d6, d7] => { results := [.lit (.bool true)], args := [d1, d2, d3, d4, d5, d6, d7] }
  | _ => none }
def fnWithServiceLeavesOthersRow : OpenClaim := { program := "qxb6613778a", sum := "567d9fbf1a98b5a8ae225399f2039e5ea2248d9523f83e61b9caebedde493e15", func := "example.com/ravenpost/ravenpost/zzlaws_root_b1.FnWithServiceLeavesOthers", spec := "fnWithServiceLeavesOthers", apart := false }
def FnWithServiceLeavesOthersSaid : Prop := fnWithServiceLeavesOthersRow.holds Try.pinned (OpenSpec.ofChange fnWithServiceLeavesOthersSpec)

/-- ITS FALSE NEIGHBOUR: 'it returns false'. Refute it at one input. -/
def fnWithServiceLeavesOthersWrong : ChangeSpec := { name := "fnWithServiceLeavesOthers", fn := fun _ => fun
  | [d1, d2, d3, d4, d5, d6, d7] => { results := [.lit (.bool false)], args := [d1, d2, d3, d4, d5, d6, d7] }
  | _ => none }
def FnWithServiceLeavesOthersWrongFalsely : Prop := fnWithServiceLeavesOthersRow.holds Try.pinned (OpenSpec.ofChange fnWithServiceLeavesOthersWrong)

end Rows
end Go.Proofs.Qxb6613778a
