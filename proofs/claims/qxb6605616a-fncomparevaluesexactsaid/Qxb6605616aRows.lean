/-
  No cell of these rows narrows 'for every input' (looked for: loops, veiled, ifaces, maps, wideKeys, modest, calm, conditions, laid).
  DERIVED. THE GIVEN ROWS OF THIS SEAT. 5 by the template 'for every input the law returns true; each argument reads behind the call as it read before'; 0 by the template 'total and deterministic' (their statements: Qxb6605616aTotals.lean).
  GIVEN WITH THE SEED: the statements are not yours to turn. If you find one false, say at which input.
  Laid BY PROGRAM, IN A SANDBOX (cutbox-rows.mjs): the forced cells as the released guide's own fill.sh prints them over the translation 18a32498d039e32c… (all of the seat's roots in one cut). By AI agents, Wed Nov 11 2026. No macro, syntax, notation, axiom, sorry.
-/
import Derived.Test.Qxb6605616aChecked
import GoSem.Claim
import GoSem.ClaimJoined
import GoSem.ClaimMapViews
import Derived.JoinedTies
import Derived.KernelRfl
namespace Go.Proofs.Qxb6605616a
/- THE CELL 'sum', in the pinned program and in every row, IS THE sha256 OF THE DUMP (.gsa) THAT Qxb6605616aProg.lean LOADS. Nothing in Lean hashes anything: it is a label: what it is worth is what the hold of that sum in a sandbox is worth. -/
noncomputable def Try.pinned : Pinned := { name := "qxb6605616a", sum := "18a32498d039e32ce4b9555261a08d1675f88d03aa4181aca072e1419ddb5cc9", checked := Try.checked }
namespace Rows
def none {H : Type} : Left H := { results := [], args := [] }

/-- 'zzlaws_root_b1.FnKindHoldsOneKindNamedByItsTag': WHATEVER THE INPUT: true; the input reads as it did. -/
def fnKindHoldsOneKindNamedByItsTagSpec : ChangeSpec := { name := "fnKindHoldsOneKindNamedByItsTag", fn := fun _ => fun
  | [d1, d2, d3, d4] => { results := [.lit (.bool true)], args := [d1, d2, d3, d4] }
  | _ => none }
def fnKindHoldsOneKindNamedByItsTagRow : OpenClaim := { program := "qxb6605616a", sum := "18a32498d039e32ce4b9555261a08d1675f88d03aa4181aca072e1419ddb5cc9", func := "example.com/pagewright/pagewright/zzlaws_root_b1.FnKindHoldsOneKindNamedByItsTag", spec := "fnKindHoldsOneKindNamedByItsTag", apart := false }
def FnKindHoldsOneKindNamedByItsTagSaid : Prop := fnKindHoldsOneKindNamedByItsTagRow.holds Try.pinned (OpenSpec.ofChange fnKindHoldsOneKindNamedByItsTagSpec)

/-- ITS FALSE NEIGHBOUR: 'it returns false'. Refute it at one input. -/
def fnKindHoldsOneKindNamedByItsTagWrong : ChangeSpec := { name := "fnKindHoldsOneKindNamedByItsTag", fn := fun _ => fun
  | [d1, d2, d3, d4] => { results := [.lit (.bool false)], args := [d1, d2, d3, d4] }
  | _ => none }
def FnKindHoldsOneKindNamedByItsTagWrongFalsely : Prop := fnKindHoldsOneKindNamedByItsTagRow.holds Try.pinned (OpenSpec.ofChange fnKindHoldsOneKindNamedByItsTagWrong)

/-- 'zzlaws_root_b1.FnStringTagIsTheStringKind': WHATEVER THE INPUT: true; the input reads as it did. -/
def fnStringTagIsTheStringKindSpec : ChangeSpec := { name := "fnStringTagIsTheStringKind", fn := fun _ => fun
  | [d1, d2] => { results := [.lit (.bool true)], args := [d1, d2] }
  | _ => none }
def fnStringTagIsTheStringKindRow : OpenClaim := { program := "qxb6605616a", sum := "18a32498d039e32ce4b9555261a08d1675f88d03aa4181aca072e1419ddb5cc9", func := "example.com/pagewright/pagewright/zzlaws_root_b1.FnStringTagIsTheStringKind", spec := "fnStringTagIsTheStringKind", apart := false }
def FnStringTagIsTheStringKindSaid : Prop := fnStringTagIsTheStringKindRow.holds Try.pinned (OpenSpec.ofChange fnStringTagIsTheStringKindSpec)

/-- ITS FALSE NEIGHBOUR: 'it returns false'. Refute it at one input. -/
def fnStringTagIsTheStringKindWrong : ChangeSpec := { name := "fnStringTagIsTheStringKind", fn := fun _ => fun
  | [d1, d2] => { results := [.lit (.bool false)], args := [d1, d2] }
  | _ => none }
def FnStringTagIsTheStringKindWrongFalsely : Prop := fnStringTagIsTheStringKindRow.holds Try.pinned (OpenSpec.ofChange fnStringTagIsTheStringKindWrong)

/-- 'zzlaws_root_b1.FnStringTagOrdersAfterNumbersBeforeNull': WHATEVER THE INPUT: true; the input reads as it did. -/
def fnStringTagOrdersAfterNumbersBeforeNullSpec : ChangeSpec := { name := "fnStringTagOrdersAfterNumbersBeforeNull", fn := fun _ => fun
  | [d1, d2, d3, d4] => { results := [.lit (.bool true)], args := [d1, d2, d3, d4] }
  | _ => none }
def fnStringTagOrdersAfterNumbersBeforeNullRow : OpenClaim := { program := "qxb6605616a", sum := "18a32498d039e32ce4b9555261a08d1675f88d03aa4181aca072e1419ddb5cc9", func := "example.com/pagewright/pagewright/zzlaws_root_b1.FnStringTagOrdersAfterNumbersBeforeNull", spec := "fnStringTagOrdersAfterNumbersBeforeNull", unfollowed := true, recurses := true, apart := false }
def FnStringTagOrdersAfterNumbersBeforeNullSaid : Prop := fnStringTagOrdersAfterNumbersBeforeNullRow.holds Try.pinned (OpenSpec.ofChange fnStringTagOrdersAfterNumbersBeforeNullSpec)

/-- ITS FALSE NEIGHBOUR: 'it returns false'. Refute it at one input. -/
def fnStringTagOrdersAfterNumbersBeforeNullWrong : ChangeSpec := { name := "fnStringTagOrdersAfterNumbersBeforeNull", fn := fun _ => fun
  | [d1, d2, d3, d4] => { results := [.lit (.bool false)], args := [d1, d2, d3, d4] }
  | _ => none }
def FnStringTagOrdersAfterNumbersBeforeNullWrongFalsely : Prop := fnStringTagOrdersAfterNumbersBeforeNullRow.holds Try.pinned (OpenSpec.ofChange fnStringTagOrdersAfterNumbersBeforeNullWrong)

/-- 'zzlaws_root_b1.FnCompareValuesExact': WHATEVER THE INPUT: true; the input reads as it did. -/
def fnCompareValuesExactSpec : ChangeSpec := { name := "fnCompareValuesExact", fn := fun _ => fun
  | [d1, d2, d3, d4, d5, d6] => { results := [.lit (.bool true)], args := [d1, d2, d3, d4, d5, d6] }
  | _ => none }
def fnCompareValuesExactRow : OpenClaim := { program := "qxb6605616a", sum := "18a32498d039e32ce4b9555261a08d1675f88d03aa4181aca072e1419ddb5cc9", func := "example.com/pagewright/pagewright/zzlaws_root_b1.FnCompareValuesExact", spec := "fnCompareValuesExact", unfollowed := true, recurses := true, apart := false }
def FnCompareValuesExactSaid : Prop := fnCompareValuesExactRow.holds Try.pinned (OpenSpec.ofChange fnCompareValuesExactSpec)

/-- ITS FALSE NEIGHBOUR: 'it returns false'. Refute it at one input. -/
def fnCompareValuesExactWrong : ChangeSpec := { name := "fnCompareValuesExact", fn := fun _ => fun
  | [d1, d2, d3, d4, d5, d6] => { results := [.lit (.bool false)], args := [d1, d2, d3, d4, d5, d6] }
  | _ => none }
def FnCompareValuesExactWrongFalsely : Prop := fnCompareValuesExactRow.holds Try.pinned (OpenSpec.ofChange fnCompareValuesExactWrong)

/-- 'zzlaws_root_b1.FnCompareValuesAgreesWithSortKeys': WHATEVER THE INPUT: true; the input reads as it did. -/
def fnCompareValuesAgreesWithSortKeysSpec : ChangeSpec := { name := "fnCompareValuesAgreesWithSortKeys", fn := fun _ => fun
  | [d1, d2, d3, d4] => { results := [.lit (.bool true)], args := [d1, d2, d3, d4] }
  | _ => none }
def fnCompareValuesAgreesWithSortKeysRow : OpenClaim := { program := "qxb6605616a", sum := "18a32498d039e32ce4b9555261a08d1675f88d03aa4181aca072e1419ddb5cc9", func := "example.com/pagewright/pagewright/zzlaws_root_b1.FnCompareValuesAgreesWithSortKeys", spec := "fnCompareValuesAgreesWithSortKeys", inPlace := ["math.Float64bits"], unfollowed := true, recurses := true, apart := false }
def FnCompareValuesAgreesWithSortKeysSaid : Prop := fnCompareValuesAgreesWithSortKeysRow.holds Try.pinned (OpenSpec.ofChange fnCompareValuesAgreesWithSortKeysSpec)

/-- ITS FALSE NEIGHBOUR: 'it returns false'. Refute it at one input. -/
def fnCompareValuesAgreesWithSortKeysWrong : ChangeSpec := { name := "fnCompareValuesAgreesWithSortKeys", fn := fun _ => fun
  | [d1, d2, d3, d4] => { results := [.lit (.bool false)], args := [d1, d2, d3, d4] }
  | _ => none }
def FnCompareValuesAgreesWithSortKeysWrongFalsely : Prop := fnCompareValuesAgreesWithSortKeysRow.holds Try.pinned (OpenSpec.ofChange fnCompareValuesAgreesWithSortKeysWrong)

end Rows
end Go.Proofs.Qxb6605616a
