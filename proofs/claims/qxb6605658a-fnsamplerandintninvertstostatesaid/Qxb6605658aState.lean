/-
  THE WALK of FnSampleRandIntnInvertsToState, every callee by its contract.
-/
import Derived.Test.Qxb6605658aInv
import Derived.OpenShut
namespace Go.Proofs.Qxb6605658a
open Go.RowKit

/-- the one cell of the newest block -/
theorem newCell (w : World) (v : Value) (t : TypeId) (b : Nat) (h : b = w.heap.size) : (w.alloc (.cells #[v] t)).cell? ⟨b, 0, none⟩ = some v := by
  rw [World.cell?_alloc_at _ _ _ _ h]; rfl
theorem newFree (w : World) (v : Value) (t : TypeId) (b : Nat) (h : w.heap.size ≤ b) : (w.alloc (.cells #[v] t)).frozen? ⟨b, 0, none⟩ = false := by
  rw [frozen?_alloc_cells]; simp [World.frozen?, Array.getElem?_eq_none h]

theorem intn19_as (x : Nat) (n r : Int) (a : Addr) (w : World) (h1 : 1 ≤ n) (h2 : n ≤ 9223372036854775807) (hr : Hid ((wd x : Int) % n = r)) (hc : w.cell? a = some (.int .u64 (x : Int))) (hf : w.frozen? a = false) :
    Calls Try.prog 19 #[.pointer (some a), .int .i64 n] w fun e w' => e = .returned (.int .i64 r) ∧ w' = w.setCell a (.int .u64 (nx x : Int)) := by
  rw [← hr.out]
  exact intn19 x n a w h1 h2 hc hf

set_option maxHeartbeats 1000000 in
theorem walk7_core (s t : Nat) (n lo m5 r : Int) (w : World) (HB : Hid (1 ≤ n ∧ n ≤ 9223372036854775807)) (hn1 : 1 ≤ n)
    (H62 : Hid ((wd s : Int) % 4611686018427387904 = lo)) (H5 : Hid ((wd s : Int) % 5 = m5)) (Hr : Hid ((wd s : Int) % n = r))
    (l1 : 0 ≤ lo) (l2 : lo < 4611686018427387904) (m1 : 0 ≤ m5) (m2 : m5 < 5) (ht : Hid (t ≤ 3)) (HZ : Hid (lo + (t : Int) * 4611686018427387904 = (wd s : Int)))
    (HN : Hid (∀ k : Nat, k ≤ t → IntKind.u64.wrap (lo + (k : Int) * 4611686018427387904) = lo + (k : Int) * 4611686018427387904 ∧ ((lo + (k : Int) * 4611686018427387904).tmod 5 = m5 ↔ (k : Int) = (t : Int))))
    (e1 : IntKind.u64.wrap ((s : Int) + 11400714819323198485) = (nx s : Int)) (e2 : IntKind.u64.wrap lo = lo) (e3 : IntKind.u64.wrap m5 = m5) (e4 : IntKind.u64.wrap n = n) (e5 : unmix (wd s) = nx s) (e6 : wrap64 r = r) :
    Calls Try.prog 7 #[.int .u64 (s : Int), .int .i64 n] w fun e w' => e = .returned (.bool true) ∧ Grown w w' := by
  go_enter Try.func7, Try.ntmps7
  go_wp2_with fail
  refine (make20 _ _).mono ?_
  rintro e w' ⟨rfl, rfl⟩
  go_wp2_with fail
  refine (intn19_as s _ lo _ _ (by omega) (by omega) H62 (newCell _ _ _ _ (by simp)) (newFree _ _ _ _ (by simp))).mono ?_
  rintro e w' ⟨rfl, rfl⟩
  go_wp2_with fail
  refine (make20 _ _).mono ?_
  rintro e w' ⟨rfl, rfl⟩
  go_wp2_with fail
  refine (intn19_as s _ m5 _ _ (by omega) (by omega) H5 (newCell _ _ _ _ (by simp)) (newFree _ _ _ _ (by simp))).mono ?_
  rintro e w' ⟨rfl, rfl⟩
  go_wp2_with fail
  refine (join21 lo m5 (wd s : Int) t _ ht.out HZ HN).mono ?_
  rintro e w' ⟨rfl, rfl⟩
  go_wp2_with fail
  refine (unmix22 (wd s) _ (wd_lt s)).mono ?_
  rintro e w' ⟨rfl, rfl⟩
  go_wp2_with fail
  refine (make20 _ _).mono ?_
  rintro e w' ⟨rfl, rfl⟩
  go_wp2_with fail
  refine (intn19_as s _ r _ _ HB.out.1 HB.out.2 Hr (newCell _ _ _ _ (by simp)) (newFree _ _ _ _ (by simp))).mono ?_
  rintro e w' ⟨rfl, rfl⟩
  have er : (wd s : Int) % n = r := Hr.out
  go_wp2_with fail
  refine (state23 (nx s : Int) _ _ (newCell _ _ _ _ (by simp))).mono ?_
  rintro e w' ⟨rfl, rfl⟩
  go_wp2
  go_ret
  exact ⟨rfl, by repeat (first | exact Grown.refl _ | apply Grown.drew | apply Grown.alloc)⟩

theorem walk7_no (s n : Int) (w : World) (h : n < 1) : Calls Try.prog 7 #[.int .u64 s, .int .i64 n] w fun e w' => e = .returned (.bool true) ∧ Grown w w' := by
  go_enter Try.func7, Try.ntmps7
  go_wp2
  go_ret
  exact ⟨rfl, Grown.refl _⟩

theorem walk7 (a0 a1 : Int) (w0 : (Lit.int .u64 a0).wf = true) (w1 : (Lit.int .i64 a1).wf = true) (w : World) :
    Calls Try.prog 7 #[.int .u64 a0, .int .i64 a1] w fun e w' => e = .returned (.bool true) ∧ Grown w w' := by
  have b0 := bounds_u64 w0
  have b1 := bounds_i64 w1
  by_cases h : a1 < 1
  · exact walk7_no _ _ w h
  · obtain ⟨s, rfl⟩ := Int.eq_ofNat_of_zero_le b0.1
    obtain ⟨lo, t, l1, l2, t1, t2, hz, hlo⟩ := word_split (wd s) (wd_lt s)
    obtain ⟨t, rfl⟩ := Int.eq_ofNat_of_zero_le t1
    have hr1 := Int.emod_nonneg (wd s : Int) (show a1 ≠ 0 by omega)
    have hr2 := Int.emod_lt_of_pos (wd s : Int) (show 0 < a1 by omega)
    refine walk7_core s t a1 lo ((wd s : Int) % 5) ((wd s : Int) % a1) w (show _ ∧ _ from ⟨by omega, b1.2⟩) (by omega) hlo rfl rfl l1 l2 (by omega) (by omega) (show t ≤ 3 by omega) hz.symm ?_ (nx_eq s)
      (by rw [IntKind.wrap_u64]; omega) (by rw [IntKind.wrap_u64]; omega) (by rw [IntKind.wrap_u64]; omega) (unmix_mix _ (nx_lt s)) (by unfold wrap64; omega)
    intro k hk
    rw [hz]
    exact join_core lo t k l1 l2 t2 (by omega) (by omega)
end Go.Proofs.Qxb6605658a
