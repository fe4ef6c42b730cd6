/-
  DERIVED. GIVEN WITH THE SEED: THE CARDS: each row of Qxb6605616aDoorRows.lean that lists a variable, with what it lists TIED to the program's text (the seventh form; the later family's looks); each row that meets fmt, with fmt's text TOLD by the authors' own Lean function (tested against real Go, not proved from fmt's source: count such statements apart). THE CARD IS WHAT COUNTS. Prove the row's statement (the work); the ties are given (Qxb6605616aDoorTie.lean); close each card by the builder's one call (the guide's Derived/Test/ToyasCard.lean, 'card_holds'). Laid BY PROGRAM, IN A SANDBOX (cutbox-door.mjs). By AI agents, Wed Nov 11 2026. No macro, syntax, notation, axiom, sorry.
-/
import Derived.Test.Qxb6605616aDoorRows
import GoSem.ClaimSeven
namespace Go.Proofs.Qxb6605616aDoor
namespace Rows

/-- THE TIED CARD OF 'zzlaws_root_b1.FnClassifyArgumentErrorIsItsOwnClass'. -/
def fnClassifyArgumentErrorIsItsOwnClassCard : Claim7 := { stood := { row := fnClassifyArgumentErrorIsItsOwnClassRow, standIns := [], harness := (true, "be0e219df0d90ef66eb0ca988f8a5a05d3b130d5a0a95b4f86d1a79791e07b5f"), looks := true }, kinds := [], alts := [], laidByText := true, laidKinds := [.handle], laidTests := true, laidLooks := .later }
def FnClassifyArgumentErrorIsItsOwnClassCardSaid : Prop := Claim7.holds Tryd.pinned (.plain (OpenSpec.ofChange fnClassifyArgumentErrorIsItsOwnClassSpec)) fnClassifyArgumentErrorIsItsOwnClassCard

/-- THE TIED CARD OF 'zzlaws_root_b1.FnClassifyCursorErrorAndStoreErrorFirst'. -/
def fnClassifyCursorErrorAndStoreErrorFirstCard : Claim7 := { stood := { row := fnClassifyCursorErrorAndStoreErrorFirstRow, standIns := [], harness := (true, "be0e219df0d90ef66eb0ca988f8a5a05d3b130d5a0a95b4f86d1a79791e07b5f"), looks := true }, kinds := [], alts := [], laidByText := true, laidKinds := [.handle], laidTests := true, laidLooks := .later }
def FnClassifyCursorErrorAndStoreErrorFirstCardSaid : Prop := Claim7.holds Tryd.pinned (.plain (OpenSpec.ofChange fnClassifyCursorErrorAndStoreErrorFirstSpec)) fnClassifyCursorErrorAndStoreErrorFirstCard
end Rows
end Go.Proofs.Qxb6605616aDoor
