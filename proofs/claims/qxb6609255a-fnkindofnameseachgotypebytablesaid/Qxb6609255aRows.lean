/-
  No cell of these rows narrows 'for every input' (looked for: loops, veiled, ifaces, maps, wideKeys, modest, calm, conditions, laid).
  DERIVED. THE GIVEN ROWS OF THIS SEAT. 2 by the template 'for every input the law returns true; each argument reads behind the call as it read before'; 0 by the template 'total and deterministic' (their statements: Qxb6609255aTotals.lean).
  GIVEN WITH THE SEED: the statements are not yours to turn. If you find one false, say at which input.
  Laid BY PROGRAM, IN A SANDBOX (cutbox-rows.mjs): the forced cells as the released guide's own fill.sh prints them over the translation 2a8af9951c7dc227… (all of the seat's roots in one cut). By AI agents, Wed Nov 11 2026. No macro, syntax, notation, axiom, sorry.
-/
import Derived.Test.Qxb6609255aChecked
import GoSem.Claim
import GoSem.ClaimJoined
import GoSem.ClaimMapViews
import Derived.JoinedTies
import Derived.KernelRfl
namespace Go.Proofs.Qxb6609255a
/- THE CELL 'sum', in the pinned program and in every row, IS THE sha256 OF THE DUMP (.gsa) THAT Qxb6609255aProg.lean LOADS. Nothing in Lean hashes anything: it is a label: what it is worth is what the hold of that sum in a sandbox is worth. -/
noncomputable def Try.pinned : Pinned := { name := "qxb6609255a", sum := "2a8af9951c7dc227e2765d3c0214fd7828198b9c2d20ae6c7682a40afd36a317", checked := Try.checked }
namespace Rows
def none {H : Type} : Left H := { results := [], args := [] }

/-- 'zzlaws_internal_condition_b1.FnKindOfAgreesWithKindOfTheValuesJSONText': WHATEVER THE INPUT: true; the input reads as it did. -/
def fnKindOfAgreesWithKindOfTheValuesJSONTextSpec : ChangeSpec := { name := "fnKindOfAgreesWithKindOfTheValuesJSONText", fn := fun _ => fun
  | [d1, d2, d3, d4, d5] => { results := [.lit (.bool true)], args := [d1, d2, d3, d4, d5] }
  | _ => none }
def fnKindOfAgreesWithKindOfTheValuesJSONTextRow : OpenClaim := { program := "qxb6609255a", sum := "2a8af9951c7dc227e2765d3c0214fd7828198b9c2d20ae6c7682a40afd36a317", func := "example.com/neat-buckets/neat-buckets/zzlaws_internal_condition_b1.FnKindOfAgreesWithKindOfTheValuesJSONText", spec := "fnKindOfAgreesWithKindOfTheValuesJSONText", apart := false }
def FnKindOfAgreesWithKindOfTheValuesJSONTextSaid : Prop := fnKindOfAgreesWithKindOfTheValuesJSONTextRow.holds Try.pinned (OpenSpec.ofChange fnKindOfAgreesWithKindOfTheValuesJSONTextSpec)

/-- ITS FALSE NEIGHBOUR: 'it returns false'. Refute it at one input. -/
def fnKindOfAgreesWithKindOfTheValuesJSONTextWrong : ChangeSpec := { name := "fnKindOfAgreesWithKindOfTheValuesJSONText", fn := fun _ => fun
  | [d1, d2, d3, d4, d5] => { results := [.lit (.bool false)], args := [d1, d2, d3, d4, d5] }
  | _ => none }
def FnKindOfAgreesWithKindOfTheValuesJSONTextWrongFalsely : Prop := fnKindOfAgreesWithKindOfTheValuesJSONTextRow.holds Try.pinned (OpenSpec.ofChange fnKindOfAgreesWithKindOfTheValuesJSONTextWrong)

/-- 'zzlaws_internal_condition_b1.FnKindOfNamesEachGoTypeByTable': WHATEVER THE INPUT: true; the input reads as it did. -/
def fnKindOfNamesEachGoTypeByTableSpec : ChangeSpec := { name := "fnKindOfNamesEachGoTypeByTable", fn := fun _ => fun
  | [d1, d2, d3, d4, d5, d6, d7] => { results := [.lit (.bool true)], args := [d1, d2, d3, d4, d5, d6, d7] }
  | _ => none }
def fnKindOfNamesEachGoTypeByTableRow : OpenClaim := { program := "qxb6609255a", sum := "2a8af9951c7dc227e2765d3c0214fd7828198b9c2d20ae6c7682a40afd36a317", func := "example.com/neat-buckets/neat-buckets/zzlaws_internal_condition_b1.FnKindOfNamesEachGoTypeByTable", spec := "fnKindOfNamesEachGoTypeByTable", apart := false }
def FnKindOfNamesEachGoTypeByTableSaid : Prop := fnKindOfNamesEachGoTypeByTableRow.holds Try.pinned (OpenSpec.ofChange fnKindOfNamesEachGoTypeByTableSpec)

/-- ITS FALSE NEIGHBOUR: 'it returns false'. Refute it at one input. -/
def fnKindOfNamesEachGoTypeByTableWrong : ChangeSpec := { name := "fnKindOfNamesEachGoTypeByTable", fn := fun _ => fun
  | [d1, d2, d3, d4, d5, d6, d7] => { results := [.lit (.bool false)], args := [d1, d2, d3, d4, d5, d6, d7] }
  | _ => none }
def FnKindOfNamesEachGoTypeByTableWrongFalsely : Prop := fnKindOfNamesEachGoTypeByTableRow.holds Try.pinned (OpenSpec.ofChange fnKindOfNamesEachGoTypeByTableWrong)

end Rows
end Go.Proofs.Qxb6609255a
