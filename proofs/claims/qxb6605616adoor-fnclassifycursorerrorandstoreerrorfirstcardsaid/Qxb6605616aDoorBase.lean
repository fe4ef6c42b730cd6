/-
  WHAT THE LISTED VARIABLE GIVES A WALK: errors.errorType's one cell; and that the door's own heap meets the condition.
-/
import Derived.Test.Qxb6605616aDoorRows
import Derived.Test.Qxb6605616aDoorLaws
import Derived.ProofKit
import Derived.OpenShut
import Derived.ShutString
import Derived.LaidLaws
import Derived.LaidHandle
import Derived.LaidMore
import Derived.Stop.Joined
namespace Go.Proofs.Qxb6605616aDoor
open Go.ChangeShapes Go.WideShapes Go.RowKit

theorem own : ownKnob Tryd.prog.godebug = none := by kernel_rfl
theorem et : Tryd.prog.globalNamed "errors.errorType" = some 0 := by kernel_rfl
theorem oneRow : ((List.range 103).filter fun t => Tryd.prog.rowNamed t [101, 114, 114, 111, 114]) = [39] := by kernel_rfl
theorem typesSize : Tryd.prog.types.size = 103 := by kernel_rfl

/-- the variable's one cell -/
theorem handle_of_laid {W : World} (h : laidMetH Tryd.prog [("errors.errorType", Rows.laid_errors_errorType)] W) : W.cell? ⟨0, 0, none⟩ = some (.iface 60 (.agg #[.pointer (some ⟨1, 39, none⟩)])) := by
  have h' : laidMet Tryd.prog [] W ∧ handlesMet Tryd.prog [("errors.errorType", Rows.laid_errors_errorType)] W := h
  obtain ⟨name, u, ty, e1, e2, e3, e4, e5⟩ := h'.2 _ (List.mem_singleton.2 rfl)
  have en : name = [101, 114, 114, 111, 114] := (Option.some.inj e1).symm
  subst en
  obtain rfl := Option.some.inj (Eq.trans (a := some 60) (by kernel_rfl) e2)
  have hm : ty ∈ (List.range 103).filter fun t => Tryd.prog.rowNamed t [101, 114, 114, 111, 114] := List.mem_filter.2 ⟨List.mem_range.2 (by rw [← typesSize]; exact e3), e4⟩
  rw [oneRow] at hm
  obtain rfl := List.mem_singleton.1 hm
  have hh : typeHandle Tryd.prog 39 = .pointer (some ⟨1, 39, none⟩) := by kernel_rfl
  rw [hh] at e5
  simpa using World.var?_cell et e5 0

theorem door_met (os : Os) (args : Array Value) : laidMetH Tryd.prog [("errors.errorType", Rows.laid_errors_errorType)] ((World.doorLaid Tryd.prog 16 os).forCall (fun _ _ => 0) ⟨#[], args, []⟩).memory :=
  laidMetH_of_parts (laidMet_nil _ _) (by kernel_rfl)
end Go.Proofs.Qxb6605616aDoor
