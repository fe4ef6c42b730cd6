/-
  NARROWER THAN 'FOR EVERY INPUT', by the rows' own cells (each row's printed sentence says how): FnClassifyArgumentErrorIsItsOwnClass: laid · FnClassifyCursorErrorAndStoreErrorFirst: laid.
  DERIVED. THE GIVEN ROWS OF THIS SEAT. 2 by the template 'for every input the law returns true; each argument reads behind the call as it read before'; 0 by the template 'total and deterministic' (their statements: Qxb6605616aDoorTotals.lean).
  GIVEN WITH THE SEED: the statements are not yours to turn. If you find one false, say at which input.
  Laid BY PROGRAM, IN A SANDBOX (cutbox-rows.mjs): the forced cells as the released guide's own fill.sh prints them over the translation ff05aab1db41a249… (all of the seat's roots in one cut). By AI agents, Wed Nov 11 2026. No macro, syntax, notation, axiom, sorry.
-/
import Derived.Test.Qxb6605616aDoorChecked
import GoSem.Claim
import GoSem.ClaimJoined
import GoSem.ClaimMapViews
import Derived.JoinedTies
import Derived.KernelRfl
namespace Go.Proofs.Qxb6605616aDoor
/- THE CELL 'sum', in the pinned program and in every row, IS THE sha256 OF THE DUMP (.gsa) THAT Qxb6605616aDoorProg.lean LOADS. Nothing in Lean hashes anything: it is a label: what it is worth is what the hold of that sum in a sandbox is worth. -/
noncomputable def Tryd.pinned : Pinned := { name := "qxb6605616adoor", sum := "ff05aab1db41a249f02a9c3a5747c14b40a0af204020e10b8c0d4f4a32c37249", checked := Tryd.checked }
namespace Rows
def none {H : Type} : Left H := { results := [], args := [] }

/- WHAT THE LISTED PACKAGE-LEVEL VARIABLES READ AS WHEN THE CALL BEGINS. Each datum BY PROGRAM (the guide's laid-datum.mjs) off the statement by which the dump's own 'gosem.cut.vars' lays the variable. In a bare row this is a premise. The card (Qxb6605616aDoorCards.lean) ties it to the program's text. -/
def laid_errors_errorType {H : Type} : DataW H := .iface "internal/reflectlite.rtype" (.agg [.ptr (.lit (.string [101, 114, 114, 111, 114]))])

/-- 'zzlaws_root_b1.FnClassifyArgumentErrorIsItsOwnClass': WHATEVER THE INPUT: true; the input reads as it did. -/
def fnClassifyArgumentErrorIsItsOwnClassSpec : ChangeSpec := { name := "fnClassifyArgumentErrorIsItsOwnClass", fn := fun _ => fun
  | [d1, d2, d3, d4, d5, d6] => { results := [.lit (.bool true)], args := [d1, d2, d3, d4, d5, d6] }
  | _ => none }
def fnClassifyArgumentErrorIsItsOwnClassRow : OpenClaim := { program := "qxb6605616adoor", sum := "ff05aab1db41a249f02a9c3a5747c14b40a0af204020e10b8c0d4f4a32c37249", func := "example.com/pagewright/pagewright/zzlaws_root_b1.FnClassifyArgumentErrorIsItsOwnClass", spec := "fnClassifyArgumentErrorIsItsOwnClass", inPlace := ["internal/reflectlite.ValueOf", "(internal/reflectlite.Value).Type", "(internal/reflectlite.Value).IsNil", "internal/reflectlite.TypeOf", "(internal/reflectlite.Value).Elem", "(internal/reflectlite.Value).Set"], unfollowed := true, recurses := true, named := ["errors.errorType"], apart := false, laid := [("errors.errorType", laid_errors_errorType)] }
def FnClassifyArgumentErrorIsItsOwnClassSaid : Prop := fnClassifyArgumentErrorIsItsOwnClassRow.holds Tryd.pinned (OpenSpec.ofChange fnClassifyArgumentErrorIsItsOwnClassSpec)

/-- ITS FALSE NEIGHBOUR: 'it returns false'. Refute it at one input. -/
def fnClassifyArgumentErrorIsItsOwnClassWrong : ChangeSpec := { name := "fnClassifyArgumentErrorIsItsOwnClass", fn := fun _ => fun
  | [d1, d2, d3, d4, d5, d6] => { results := [.lit (.bool false)], args := [d1, d2, d3, d4, d5, d6] }
  | _ => none }
def FnClassifyArgumentErrorIsItsOwnClassWrongFalsely : Prop := fnClassifyArgumentErrorIsItsOwnClassRow.holds Tryd.pinned (OpenSpec.ofChange fnClassifyArgumentErrorIsItsOwnClassWrong)

/-- 'zzlaws_root_b1.FnClassifyCursorErrorAndStoreErrorFirst': WHATEVER THE INPUT: true; the input reads as it did. -/
def fnClassifyCursorErrorAndStoreErrorFirstSpec : ChangeSpec := { name := "fnClassifyCursorErrorAndStoreErrorFirst", fn := fun _ => fun
  | [d1, d2] => { results := [.lit (.bool true)], args := [d1, d2] }
  | _ => none }
def fnClassifyCursorErrorAndStoreErrorFirstRow : OpenClaim := { program := "qxb6605616adoor", sum := "ff05aab1db41a249f02a9c3a5747c14b40a0af204020e10b8c0d4f4a32c37249", func := "example.com/pagewright/pagewright/zzlaws_root_b1.FnClassifyCursorErrorAndStoreErrorFirst", spec := "fnClassifyCursorErrorAndStoreErrorFirst", inPlace := ["internal/reflectlite.ValueOf", "(internal/reflectlite.Value).Type", "(internal/reflectlite.Value).IsNil", "internal/reflectlite.TypeOf", "(internal/reflectlite.Value).Elem", "(internal/reflectlite.Value).Set"], unfollowed := true, recurses := true, named := ["errors.errorType"], apart := false, laid := [("errors.errorType", laid_errors_errorType)] }
def FnClassifyCursorErrorAndStoreErrorFirstSaid : Prop := fnClassifyCursorErrorAndStoreErrorFirstRow.holds Tryd.pinned (OpenSpec.ofChange fnClassifyCursorErrorAndStoreErrorFirstSpec)

/-- ITS FALSE NEIGHBOUR: 'it returns false'. Refute it at one input. -/
def fnClassifyCursorErrorAndStoreErrorFirstWrong : ChangeSpec := { name := "fnClassifyCursorErrorAndStoreErrorFirst", fn := fun _ => fun
  | [d1, d2] => { results := [.lit (.bool false)], args := [d1, d2] }
  | _ => none }
def FnClassifyCursorErrorAndStoreErrorFirstWrongFalsely : Prop := fnClassifyCursorErrorAndStoreErrorFirstRow.holds Tryd.pinned (OpenSpec.ofChange fnClassifyCursorErrorAndStoreErrorFirstWrong)

end Rows
end Go.Proofs.Qxb6605616aDoor
