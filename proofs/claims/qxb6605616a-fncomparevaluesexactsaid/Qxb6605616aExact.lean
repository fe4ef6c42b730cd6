/-
  THE WALK of FnCompareValuesExact, every callee by its contract.
-/
import Derived.Test.Qxb6605616aModel
namespace Go.Proofs.Qxb6605616a
open Go.RowKit
set_option linter.unusedVariables false

theorem grown_drewN (w : World) (q : Nat) : Grown w (w.drewN q) := Grown.refl w

set_option maxHeartbeats 4000000 in
theorem walk6 (a0 a1 : Int) (a2 a3 : Nat) (a4 a5 : ByteArray) (w0 : (Lit.int .i64 a0).wf = true) (w1 : (Lit.int .i64 a1).wf = true) (w2 : (Lit.float .f64 a2).wf = true) (w3 : (Lit.float .f64 a3).wf = true) (w4 : a4.size ≤ maxLen) (w5 : a5.size ≤ maxLen) (w : World) :
    Calls Try.prog 6 #[.int .i64 a0, .int .i64 a1, .float .f64 a2, .float .f64 a3, .string a4, .string a5] w fun e w' => e = .returned (.bool true) ∧ Grown w w' := by
  clear w0 w1 w2 w3
  by_cases h : a4.size + a5.size ≤ 1048576
  · have HW : Hid (a4.size ≤ maxLen ∧ a5.size ≤ maxLen) := ⟨w4, w5⟩
    clear w4 w5
    go_enter Try.func6, Try.ntmps6
    go_wp2_with fail
    refine (bytes19_yes _ _ _ _ _ _ _ h).mono ?_
    rintro e w' ⟨rfl, rfl⟩
    go_wp2_with fail
    refine (shim20 _ _ _).mono ?_
    rintro e w' ⟨rfl, rfl⟩
    go_wp2_with fail
    refine (cmp21 _ _ _).mono ?_
    rintro e w' ⟨rfl, rfl⟩
    go_wp2_with fail
    refine (shim22 _ _ _).mono ?_
    rintro e w' ⟨rfl, rfl⟩
    go_wp2_with fail
    refine (model23 _ _ _).mono ?_
    rintro e w' ⟨rfl, rfl⟩
    go_wp2_with fail
    refine (shim24 _ _ _).mono ?_
    rintro e w' ⟨rfl, rfl⟩
    go_wp2_with fail
    refine (model25 _ _ _ HW.out.1 HW.out.2).mono ?_
    rintro e w'' ⟨rfl, q, rfl⟩
    go_wp2_with fail
    refine (shim26 _ _ _).mono ?_
    rintro e w'' ⟨rfl, rfl⟩
    go_wp2_with fail
    refine (shim27 _ _ _).mono ?_
    rintro e w'' ⟨rfl, rfl⟩
    go_wp2_with fail
    refine (shim28 _ _).mono ?_
    rintro e w'' ⟨rfl, rfl⟩
    go_wp2_with fail
    refine (shim29 _ _ _).mono ?_
    rintro e w'' ⟨rfl, rfl⟩
    go_wp2_with fail
    refine (shim30 _ _ _).mono ?_
    rintro e w'' ⟨rfl, rfl⟩
    go_wp2_with fail
    refine (shim31 _ _).mono ?_
    rintro e w'' ⟨rfl, rfl⟩
    go_wp2_with fail
    refine (shim32 _ _ _).mono ?_
    rintro e w'' ⟨rfl, rfl⟩
    go_wp2_with fail
    refine (shim33 _ _ _).mono ?_
    rintro e w'' ⟨rfl, rfl⟩
    go_wp2_with fail
    refine (shim34 _ _).mono ?_
    rintro e w'' ⟨rfl, rfl⟩
    go_wp2_with fail
    refine (shim35 _ _).mono ?_
    rintro e w'' ⟨rfl, rfl⟩
    go_wp2_with fail
    refine (shim36 _ _).mono ?_
    rintro e w'' ⟨rfl, rfl⟩
    go_wp2_with fail
    refine (shim37 _ _).mono ?_
    rintro e w'' ⟨rfl, rfl⟩
    go_wp2_with fail
    refine (shim38 _).mono ?_
    rintro e w'' ⟨rfl, rfl⟩
    go_wp2
    go_ret
    exact ⟨rfl, grown_drewN _ _⟩
  · go_enter Try.func6, Try.ntmps6
    go_wp2_with (go_at_call 19; refine (bytes19_no _ _ _ _ _ _ _ (by omega)).mono ?_; rintro e w' ⟨rfl, rfl⟩)
    go_ret
    exact ⟨rfl, Grown.refl _⟩
end Go.Proofs.Qxb6605616a
