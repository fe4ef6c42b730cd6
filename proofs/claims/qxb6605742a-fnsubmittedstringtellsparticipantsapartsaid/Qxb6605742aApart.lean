/-
  THE WALK of FnSubmittedStringTellsParticipantsApart, every callee by its contract.
-/
import Derived.Test.Qxb6605742aSub
namespace Go.Proofs.Qxb6605742a
open Go.RowKit
set_option linter.unusedVariables false

theorem bytes23_yes (a b c d : ByteArray) (w : World) (h : a.size + b.size + c.size + d.size ≤ 1048576) :
    Calls Try.prog 23 #[.string a, .string b, .string c, .string d] w fun e w' => e = .returned (.bool true) ∧ w' = w := by
  go_enter Try.func23, Try.ntmps23
  go_wp2
  go_ret
  exact ⟨rfl, rfl⟩
theorem bytes23_no (a b c d : ByteArray) (w : World) (h : 1048576 < a.size + b.size + c.size + d.size) :
    Calls Try.prog 23 #[.string a, .string b, .string c, .string d] w fun e w' => e = .returned (.bool false) ∧ w' = w := by
  go_enter Try.func23, Try.ntmps23
  go_wp2
  all_goals (go_ret; exact ⟨rfl, rfl⟩)

set_option maxHeartbeats 1000000 in
/-- both processes without a space -/
theorem walk6_both (a b c d : ByteArray) (w : World) (h : a.size + b.size + c.size + d.size ≤ 1048576) (l1 : a.size ≤ 65536) (l2 : b.size ≤ 65536) (l3 : c.size ≤ 65536) (l4 : d.size ≤ 65536)
    (HS : Hid (sp a = 0 ∧ sp c = 0)) (A B : Bool) (hA : (a.toList == c.toList) = A) (hB : (b.toList == d.toList) = B) (hS : ((sub a b).toList == (sub c d).toList) = (A && B)) :
    Calls Try.prog 6 #[.string a, .string b, .string c, .string d] w fun e w' => e = .returned (.bool true) ∧ Grown w w' := by
  have z1 : ((sp a : Int) != 0) = false := by rw [HS.out.1]; rfl
  have z2 : ((sp c : Int) != 0) = false := by rw [HS.out.2]; rfl
  cases A <;> cases B <;> simp only [Bool.and_true, Bool.and_false] at hS
  all_goals
    go_enter Try.func6, Try.ntmps6
    go_wp2_with fail
    refine (bytes23_yes _ _ _ _ _ h).mono ?_
    rintro e w' ⟨rfl, rfl⟩
    go_wp2_with fail
    refine (spaces20 a _ (by unfold maxLen; omega)).mono ?_
    rintro e w' ⟨rfl, rfl⟩
    go_wp2_with fail
    refine (spaces20 c _ (by unfold maxLen; omega)).mono ?_
    rintro e w' ⟨rfl, rfl⟩
    go_wp2_with fail
    refine (make19 a b _ (by omega)).mono ?_
    rintro e w' ⟨rfl, rfl⟩
    go_wp2_with fail
    refine (make19 c d _ (by omega)).mono ?_
    rintro e w' ⟨rfl, rfl⟩
    go_wp2
    go_ret
    exact ⟨rfl, by repeat (first | exact Grown.refl _ | apply Grown.drew | apply Grown.alloc)⟩

set_option maxHeartbeats 1000000 in
theorem walk6_long (a b c d : ByteArray) (w : World) (h : a.size + b.size + c.size + d.size ≤ 1048576) (hl : 65536 < a.size ∨ 65536 < b.size ∨ 65536 < c.size ∨ 65536 < d.size) :
    Calls Try.prog 6 #[.string a, .string b, .string c, .string d] w fun e w' => e = .returned (.bool true) ∧ Grown w w' := by
  go_enter Try.func6, Try.ntmps6
  go_wp2_with fail
  refine (bytes23_yes _ _ _ _ _ h).mono ?_
  rintro e w' ⟨rfl, rfl⟩
  by_cases l1 : 65536 < a.size
  · clear hl
    go_wp2
    go_ret
    exact ⟨rfl, Grown.refl _⟩
  · by_cases l2 : 65536 < b.size
    · clear hl
      go_wp2
      go_ret
      exact ⟨rfl, Grown.refl _⟩
    · by_cases l3 : 65536 < c.size
      · clear hl
        go_wp2
        go_ret
        exact ⟨rfl, Grown.refl _⟩
      · have l4 : 65536 < d.size := by omega
        clear hl
        go_wp2
        go_ret
        exact ⟨rfl, Grown.refl _⟩

set_option maxHeartbeats 1000000 in
theorem walk6_first (a b c d : ByteArray) (w : World) (h : a.size + b.size + c.size + d.size ≤ 1048576) (l1 : a.size ≤ 65536) (l2 : b.size ≤ 65536) (l3 : c.size ≤ 65536) (l4 : d.size ≤ 65536)
    (z1 : ((sp a : Int) != 0) = true) :
    Calls Try.prog 6 #[.string a, .string b, .string c, .string d] w fun e w' => e = .returned (.bool true) ∧ Grown w w' := by
  go_enter Try.func6, Try.ntmps6
  go_wp2_with fail
  refine (bytes23_yes _ _ _ _ _ h).mono ?_
  rintro e w' ⟨rfl, rfl⟩
  go_wp2_with fail
  refine (spaces20 a _ (by unfold maxLen; omega)).mono ?_
  rintro e w' ⟨rfl, rfl⟩
  go_wp2
  go_ret
  exact ⟨rfl, Grown.refl _⟩
set_option maxHeartbeats 1000000 in
theorem walk6_second (a b c d : ByteArray) (w : World) (h : a.size + b.size + c.size + d.size ≤ 1048576) (l1 : a.size ≤ 65536) (l2 : b.size ≤ 65536) (l3 : c.size ≤ 65536) (l4 : d.size ≤ 65536)
    (z1 : ((sp a : Int) != 0) = false) (z2 : ((sp c : Int) != 0) = true) :
    Calls Try.prog 6 #[.string a, .string b, .string c, .string d] w fun e w' => e = .returned (.bool true) ∧ Grown w w' := by
  go_enter Try.func6, Try.ntmps6
  go_wp2_with fail
  refine (bytes23_yes _ _ _ _ _ h).mono ?_
  rintro e w' ⟨rfl, rfl⟩
  go_wp2_with fail
  refine (spaces20 a _ (by unfold maxLen; omega)).mono ?_
  rintro e w' ⟨rfl, rfl⟩
  go_wp2_with fail
  refine (spaces20 c _ (by unfold maxLen; omega)).mono ?_
  rintro e w' ⟨rfl, rfl⟩
  go_wp2
  go_ret
  exact ⟨rfl, Grown.refl _⟩
theorem walk6_no (a b c d : ByteArray) (w : World) (h : 1048576 < a.size + b.size + c.size + d.size) :
    Calls Try.prog 6 #[.string a, .string b, .string c, .string d] w fun e w' => e = .returned (.bool true) ∧ Grown w w' := by
  go_enter Try.func6, Try.ntmps6
  go_wp2_with fail
  refine (bytes23_no _ _ _ _ _ h).mono ?_
  rintro e w' ⟨rfl, rfl⟩
  go_wp2
  go_ret
  exact ⟨rfl, Grown.refl _⟩

theorem walk6 (a0 a1 a2 a3 : ByteArray) (w0 : a0.size ≤ maxLen) (w1 : a1.size ≤ maxLen) (w2 : a2.size ≤ maxLen) (w3 : a3.size ≤ maxLen) (w : World) :
    Calls Try.prog 6 #[.string a0, .string a1, .string a2, .string a3] w fun e w' => e = .returned (.bool true) ∧ Grown w w' := by
  by_cases h : a0.size + a1.size + a2.size + a3.size ≤ 1048576
  · by_cases hl : 65536 < a0.size ∨ 65536 < a1.size ∨ 65536 < a2.size ∨ 65536 < a3.size
    · exact walk6_long a0 a1 a2 a3 w h hl
    · by_cases s1 : sp a0 = 0
      · by_cases s2 : sp a2 = 0
        · exact walk6_both a0 a1 a2 a3 w h (by omega) (by omega) (by omega) (by omega) (show _ ∧ _ from ⟨s1, s2⟩) _ _ rfl rfl (apart_law a0 a1 a2 a3 s1 s2)
        · exact walk6_second a0 a1 a2 a3 w h (by omega) (by omega) (by omega) (by omega) (by rw [s1]; rfl) (by rw [bne_iff_ne]; omega)
      · exact walk6_first a0 a1 a2 a3 w h (by omega) (by omega) (by omega) (by omega) (by rw [bne_iff_ne]; omega)
  · exact walk6_no a0 a1 a2 a3 w (by omega)
end Go.Proofs.Qxb6605742a
