/-
  THE WALK of FnSampleRandIntnStreamScript, every callee by its contract.
-/
import Derived.Test.Qxb6605658aRand
import Derived.OpenShut
namespace Go.Proofs.Qxb6605658a
open Go.RowKit

/-- a cell that is there stays under a new block -/
theorem kept {w : World} {a : Addr} {v : Value} (h : w.cell? a = some v) (o : Obj) : (w.alloc o).cell? a = some v := by
  have hl : a.block < w.heap.size := by
    rcases Nat.lt_or_ge a.block w.heap.size with h' | h'
    · exact h'
    · simp [World.cell?, Array.getElem?_eq_none h'] at h
  rw [World.cell?_alloc_lt _ _ a hl]; exact h

/-- the one cell of the newest block -/
theorem newCell (w : World) (v : Value) (t : TypeId) (b : Nat) (h : b = w.heap.size) : (w.alloc (.cells #[v] t)).cell? ⟨b, 0, none⟩ = some v := by
  rw [World.cell?_alloc_at _ _ _ _ h]; rfl
theorem newFree (w : World) (v : Value) (t : TypeId) (b : Nat) (h : w.heap.size ≤ b) : (w.alloc (.cells #[v] t)).frozen? ⟨b, 0, none⟩ = false := by
  rw [frozen?_alloc_cells]; simp [World.frozen?, Array.getElem?_eq_none h]

set_option maxHeartbeats 1000000 in
theorem walk8_far (s : Nat) (n m : Int) (w : World) (hn1 : 1 ≤ n) (hn2 : n ≤ 9223372036854775807) (hm1 : 1 ≤ m) (hm2 : m ≤ 9223372036854775807) (hq : 9223372036854775807 / m < n) :
    Calls Try.prog 8 #[.int .u64 (s : Int), .int .i64 n, .int .i64 m] w fun e w' => e = .returned (.bool true) ∧ Grown w w' := by
  have HB : Hid ((1 ≤ n ∧ n ≤ 9223372036854775807) ∧ 1 ≤ m ∧ m ≤ 9223372036854775807) := ⟨⟨hn1, hn2⟩, hm1, hm2⟩
  have e1 := nx_eq s
  have e2 := nx_eq (nx s)
  have a1 := Int.emod_nonneg (wd s : Int) (show n ≠ 0 by omega)
  have a2 := Int.emod_lt_of_pos (wd s : Int) (show 0 < n by omega)
  have b1 := Int.emod_nonneg (wd (nx s) : Int) (show m ≠ 0 by omega)
  have b2 := Int.emod_lt_of_pos (wd (nx s) : Int) (show 0 < m by omega)
  clear hn2 hm2
  go_enter Try.func8, Try.ntmps8
  go_wp2_with fail
  refine (make20 _ _).mono ?_
  rintro e w' ⟨rfl, rfl⟩
  go_wp2_with fail
  refine (intn19 s _ _ _ HB.out.1.1 HB.out.1.2 (by simp) (by simp)).mono ?_
  rintro e w' ⟨rfl, rfl⟩
  go_wp2_with fail
  refine (intn19 (nx s) _ _ _ HB.out.2.1 HB.out.2.2 (by simp) (by simp)).mono ?_
  rintro e w' ⟨rfl, rfl⟩
  go_wp2_with fail
  refine (make20 _ _).mono ?_
  rintro e w' ⟨rfl, rfl⟩
  go_wp2_with fail
  refine (intn19 (nx s) _ _ _ HB.out.2.1 HB.out.2.2 (by simp) (by simp)).mono ?_
  rintro e w' ⟨rfl, rfl⟩
  go_wp2_with fail
  refine (state23 (nx (nx s) : Int) _ _ (kept (show _ = some (Value.int .u64 (nx (nx s) : Int)) by simp) _)).mono ?_
  rintro e w' ⟨rfl, rfl⟩
  go_wp2_with fail
  refine (state23 (nx (nx s) : Int) _ _ (by simp)).mono ?_
  rintro e w' ⟨rfl, rfl⟩
  go_wp2_with fail
  go_ret
  exact ⟨rfl, by repeat (first | exact Grown.refl _ | apply Grown.drew | apply Grown.alloc)⟩

set_option maxHeartbeats 1000000 in
theorem walk8_near (s : Nat) (n m : Int) (w : World) (hn1 : 1 ≤ n) (hn2 : n ≤ 9223372036854775807) (hm1 : 1 ≤ m) (hm2 : m ≤ 9223372036854775807) (hq : n ≤ 9223372036854775807 / m) :
    Calls Try.prog 8 #[.int .u64 (s : Int), .int .i64 n, .int .i64 m] w fun e w' => e = .returned (.bool true) ∧ Grown w w' := by
  have HB : Hid ((1 ≤ n ∧ n ≤ 9223372036854775807) ∧ 1 ≤ m ∧ m ≤ 9223372036854775807) := ⟨⟨hn1, hn2⟩, hm1, hm2⟩
  have e1 := nx_eq s
  have e2 := nx_eq (nx s)
  have a1 := Int.emod_nonneg (wd s : Int) (show n ≠ 0 by omega)
  have a2 := Int.emod_lt_of_pos (wd s : Int) (show 0 < n by omega)
  have b1 := Int.emod_nonneg (wd (nx s) : Int) (show m ≠ 0 by omega)
  have b2 := Int.emod_lt_of_pos (wd (nx s) : Int) (show 0 < m by omega)
  have hp2 : n * m ≤ 9223372036854775807 := Int.mul_le_of_le_ediv (by omega) hq
  have hp1 : 1 ≤ n * m := Int.mul_pos (show 0 < n by omega) (show 0 < m by omega)
  have HP : Hid (1 ≤ n * m ∧ n * m ≤ 9223372036854775807) := ⟨hp1, hp2⟩
  have e3 : wrap64 (n * m) = n * m := by unfold wrap64; omega
  have e4 : (wd s : Int) % (n * m) % m = (wd s : Int) % m := Int.emod_emod_of_dvd _ (Int.dvd_mul_left n m)
  have c1 := Int.emod_nonneg (wd s : Int) (show n * m ≠ 0 by omega)
  have c2 := Int.emod_lt_of_pos (wd s : Int) (show 0 < n * m by omega)
  clear hn2 hm2 hp1 hp2
  go_enter Try.func8, Try.ntmps8
  go_wp2_with fail
  refine (make20 _ _).mono ?_
  rintro e w' ⟨rfl, rfl⟩
  go_wp2_with fail
  refine (intn19 s _ _ _ HB.out.1.1 HB.out.1.2 (by simp) (by simp)).mono ?_
  rintro e w' ⟨rfl, rfl⟩
  go_wp2_with fail
  refine (intn19 (nx s) _ _ _ HB.out.2.1 HB.out.2.2 (by simp) (by simp)).mono ?_
  rintro e w' ⟨rfl, rfl⟩
  go_wp2_with fail
  refine (make20 _ _).mono ?_
  rintro e w' ⟨rfl, rfl⟩
  go_wp2_with fail
  refine (intn19 (nx s) _ _ _ HB.out.2.1 HB.out.2.2 (by simp) (by simp)).mono ?_
  rintro e w' ⟨rfl, rfl⟩
  go_wp2_with fail
  refine (state23 (nx (nx s) : Int) _ _ (kept (show _ = some (Value.int .u64 (nx (nx s) : Int)) by simp) _)).mono ?_
  rintro e w' ⟨rfl, rfl⟩
  go_wp2_with fail
  refine (state23 (nx (nx s) : Int) _ _ (by simp)).mono ?_
  rintro e w' ⟨rfl, rfl⟩
  go_wp2_with fail
  refine (make20 _ _).mono ?_
  rintro e w' ⟨rfl, rfl⟩
  go_wp2_with fail
  refine (intn19 s _ _ _ HP.out.1 HP.out.2 (newCell _ _ _ _ (by simp)) (newFree _ _ _ _ (by simp))).mono ?_
  rintro e w' ⟨rfl, rfl⟩
  go_wp2_with fail
  refine (make20 _ _).mono ?_
  rintro e w' ⟨rfl, rfl⟩
  go_wp2_with fail
  refine (intn19 s _ _ _ HB.out.2.1 HB.out.2.2 (newCell _ _ _ _ (by simp)) (newFree _ _ _ _ (by simp))).mono ?_
  rintro e w' ⟨rfl, rfl⟩
  go_wp2
  go_ret
  exact ⟨rfl, by repeat (first | exact Grown.refl _ | apply Grown.drew | apply Grown.alloc)⟩

set_option maxHeartbeats 400000 in
theorem walk8_no (s : Int) (n m : Int) (w : World) (h : n < 1 ∨ m < 1) :
    Calls Try.prog 8 #[.int .u64 s, .int .i64 n, .int .i64 m] w fun e w' => e = .returned (.bool true) ∧ Grown w w' := by
  by_cases h1 : n < 1
  · go_enter Try.func8, Try.ntmps8
    go_wp2
    go_ret
    exact ⟨rfl, Grown.refl _⟩
  · have h2 : m < 1 := by omega
    clear h
    go_enter Try.func8, Try.ntmps8
    go_wp2
    go_ret
    exact ⟨rfl, Grown.refl _⟩

theorem walk8 (a0 a1 a2 : Int) (w0 : (Lit.int .u64 a0).wf = true) (w1 : (Lit.int .i64 a1).wf = true) (w2 : (Lit.int .i64 a2).wf = true) (w : World) :
    Calls Try.prog 8 #[.int .u64 a0, .int .i64 a1, .int .i64 a2] w fun e w' => e = .returned (.bool true) ∧ Grown w w' := by
  have b0 := bounds_u64 w0
  have b1 := bounds_i64 w1
  have b2 := bounds_i64 w2
  by_cases h : a1 < 1 ∨ a2 < 1
  · exact walk8_no _ _ _ w h
  · obtain ⟨s, rfl⟩ := Int.eq_ofNat_of_zero_le b0.1
    by_cases hq : a1 ≤ 9223372036854775807 / a2
    · exact walk8_near s a1 a2 w (by omega) b1.2 (by omega) b2.2 hq
    · exact walk8_far s a1 a2 w (by omega) b1.2 (by omega) b2.2 (by omega)
end Go.Proofs.Qxb6605658a
