/-
  THE WALKS of the law's own models (zzCmpInt64, zzCmpU, zzIntKey, zzFloatKey) and of FnCompareValuesAgreesWithSortKeys.
-/
import Derived.Test.Qxb6605616aKeyLaw
import Derived.OpenShut
namespace Go.Proofs.Qxb6605616a
open Go.RowKit Go.Extern

theorem cmp39 (a b : Int) (w : World) : Calls Try.prog 39 #[.int .u64 a, .int .u64 b] w fun e w' => e = .returned (.int .i64 (sg a b)) ∧ w' = w := by
  unfold sg
  go_enter Try.func39, Try.ntmps39
  go_wp2
  all_goals (go_ret; exact ⟨rfl, rfl⟩)
theorem key40 (x : Int) (w : World) (h1 : -9223372036854775808 ≤ x) (h2 : x ≤ 9223372036854775807) : Calls Try.prog 40 #[.int .i64 x] w fun e w' => e = .returned (.int .u64 (ikey x)) ∧ w' = w := by
  have hk : Hid (bits .xor .u64 (IntKind.u64.wrap x) 9223372036854775808 = ikey x) := ikey_eq x h1 h2
  clear h1 h2
  go_enter Try.func40, Try.ntmps40
  go_wp2
  go_ret
  exact ⟨by rw [← hk.out]; rfl, rfl⟩
theorem bits48 (f : Nat) (w : World) : Sem.run Try.prog (callFunc 48 #[.float .f64 f]) w = .ok (.value (.int .u64 f)) w := by
  rw [run_callFunc_extern (e := Extern.MathFloatBits.float64bits) Try.func48 (by kernel_rfl) (by kernel_rfl) (by kernel_rfl) (by kernel_rfl)]
  rfl
set_option maxHeartbeats 400000 in
theorem key41 (f : Nat) (w : World) (h : f < 2 ^ 64) : Calls Try.prog 41 #[.float .f64 f] w fun e w' => e = .returned (.int .u64 (fkey f)) ∧ w' = w := by
  cases nf : Floats.nan f
  · have n1 := numTest nf
    have n2 := zeroTest nf
    have n3 := negTest h
    by_cases z : Floats.rung f = 0
    · have hk : Hid (fkey f = 9223372036854775808) := by show fkey f = _; simp [fkey, nf, z]
      rw [show decide (Floats.rung f = 0) = true by simp [z]] at n2
      have hb := bits48
      clear nf z n3 h
      go_enter Try.func41, Try.ntmps41
      go_wp2
      go_ret
      exact ⟨by rw [hk.out]; rfl, rfl⟩
    · rw [show decide (Floats.rung f = 0) = false by simp [z]] at n2
      have hb := bits48
      cases ng : Floats.neg f
      · have hk : Hid (fkey f = (f : Int) + 9223372036854775808) := by show fkey f = _; simp [fkey, nf, z, ng]
        have hlt : f < 2 ^ 63 := by
          have e := word_eq f h
          have b := rung_lt f
          rw [ng] at e; simp at e; omega
        have ho : Hid (bits .or .u64 (f : Int) 9223372036854775808 = (f : Int) + 9223372036854775808) := orKey hlt
        rw [ng] at n3
        clear nf z ng h hlt
        go_enter Try.func41, Try.ntmps41
        go_wp2
        go_ret
        exact ⟨by rw [hk.out, ← ho.out]; rfl, rfl⟩
      · have hk : Hid (fkey f = 18446744073709551615 - (f : Int)) := by show fkey f = _; simp [fkey, nf, z, ng]
        have ho : Hid (bits .xor .u64 IntKind.u64.max (f : Int) = 18446744073709551615 - (f : Int)) := notKey h
        rw [ng] at n3
        clear nf z ng h
        go_enter Try.func41, Try.ntmps41
        go_wp2
        all_goals (go_ret; exact ⟨by rw [hk.out, ← ho.out]; rfl, rfl⟩)
  · have n1 := nanTest nf
    have hk : Hid (fkey f = 18446744073709551615) := by show fkey f = _; simp [fkey, nf]
    clear nf h
    go_enter Try.func41, Try.ntmps41
    go_wp2
    go_ret
    exact ⟨by rw [hk.out]; rfl, rfl⟩

set_option maxHeartbeats 1000000 in
theorem walk7 (a0 a1 : Int) (a2 a3 : Nat) (w0 : (Lit.int .i64 a0).wf = true) (w1 : (Lit.int .i64 a1).wf = true) (w2 : (Lit.float .f64 a2).wf = true) (w3 : (Lit.float .f64 a3).wf = true) (w : World) :
    Calls Try.prog 7 #[.int .i64 a0, .int .i64 a1, .float .f64 a2, .float .f64 a3] w fun e w' => e = .returned (.bool true) ∧ Grown w w' := by
  have b0 := bounds_i64 w0
  have b1 := bounds_i64 w1
  have b2 : a2 < 2 ^ 64 := of_decide_eq_true w2
  have b3 : a3 < 2 ^ 64 := of_decide_eq_true w3
  have hB : Hid ((-9223372036854775808 ≤ a0 ∧ a0 ≤ 9223372036854775807) ∧ (-9223372036854775808 ≤ a1 ∧ a1 ≤ 9223372036854775807) ∧ a2 < 2 ^ 64 ∧ a3 < 2 ^ 64) := ⟨b0, b1, b2, b3⟩
  have e1 := sg_ikey a0 a1
  have e2 := sg_swap a0 a1
  have e3 := sg_bd a0 a1
  have e4 := sg_fkey b2 b3
  have e5 := fm_swap a2 a3
  have e6 := fm_bd a2 a3
  clear b0 b1 b2 b3 w0 w1 w2 w3
  go_enter Try.func7, Try.ntmps7
  go_wp2_with fail
  refine (shim20 _ _ _).mono ?_
  rintro e w' ⟨rfl, rfl⟩
  go_wp2_with fail
  refine (shim20 _ _ _).mono ?_
  rintro e w' ⟨rfl, rfl⟩
  go_wp2_with fail
  refine (shim22 _ _ _).mono ?_
  rintro e w' ⟨rfl, rfl⟩
  go_wp2_with fail
  refine (shim22 _ _ _).mono ?_
  rintro e w' ⟨rfl, rfl⟩
  go_wp2_with fail
  refine (key40 _ _ hB.out.1.1 hB.out.1.2).mono ?_
  rintro e w' ⟨rfl, rfl⟩
  go_wp2_with fail
  refine (key40 _ _ hB.out.2.1.1 hB.out.2.1.2).mono ?_
  rintro e w' ⟨rfl, rfl⟩
  go_wp2_with fail
  refine (cmp39 _ _ _).mono ?_
  rintro e w' ⟨rfl, rfl⟩
  go_wp2_with fail
  refine (key41 _ _ hB.out.2.2.1).mono ?_
  rintro e w' ⟨rfl, rfl⟩
  go_wp2_with fail
  refine (key41 _ _ hB.out.2.2.2).mono ?_
  rintro e w' ⟨rfl, rfl⟩
  go_wp2_with fail
  refine (cmp39 _ _ _).mono ?_
  rintro e w' ⟨rfl, rfl⟩
  go_wp2
  go_ret
  exact ⟨rfl, Grown.refl _⟩
end Go.Proofs.Qxb6605616a
