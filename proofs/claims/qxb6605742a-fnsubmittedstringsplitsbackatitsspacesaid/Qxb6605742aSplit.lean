/-
  THE WALK of FnSubmittedStringSplitsBackAtItsSpace, every callee by its contract.
-/
import Derived.Test.Qxb6605742aSub
namespace Go.Proofs.Qxb6605742a
open Go.RowKit
set_option linter.unusedVariables false

theorem bytes18_yes (a b : ByteArray) (w : World) (h : a.size + b.size ≤ 1048576) :
    Calls Try.prog 18 #[.string a, .string b] w fun e w' => e = .returned (.bool true) ∧ w' = w := by
  go_enter Try.func18, Try.ntmps18
  go_wp2
  go_ret
  exact ⟨rfl, rfl⟩
theorem bytes18_no (a b : ByteArray) (w : World) (h : 1048576 < a.size + b.size) :
    Calls Try.prog 18 #[.string a, .string b] w fun e w' => e = .returned (.bool false) ∧ w' = w := by
  go_enter Try.func18, Try.ntmps18
  go_wp2
  all_goals (go_ret; exact ⟨rfl, rfl⟩)

set_option maxHeartbeats 400000 in
theorem first21 (s : ByteArray) (i : Nat) (w : World) (hs : s.size ≤ maxLen) (hi : i < s.size) (H : Hid (∀ (j : Nat) (h : j < s.size), j ≤ i → ((s[j].toNat : Int) == 32) = decide (j = i))) :
    Calls Try.prog 21 #[.string s] w fun e w' => e = .returned (.int .i64 i) ∧ w' = w := by
  unfold maxLen at hs
  go_enter Try.func21, Try.ntmps21
  go_wp2
  go_loop [3] (fun v => ∃ k : Nat, k ≤ i ∧ v = .int .i64 k) (fun v => s.size - (intOf v).toNat)
  case atStart => exact ⟨0, Nat.zero_le _, rfl⟩
  case round =>
    obtain ⟨k, hk, rfl⟩ := hrel
    have hlt : k < s.size := by omega
    have g := H.out k hlt hk
    by_cases e : k = i
    · rw [show decide (k = i) = true by simp [e]] at g
      have HE : Hid (k = i) := e
      clear e
      go_wp2
      go_ret
      exact ⟨congrArg (fun z : Nat => Ending.returned (Value.int .i64 (z : Int))) HE.out, rfl⟩
    · rw [show decide (k = i) = false by simp [e]] at g
      have hlt2 : k < i := by omega
      clear e
      go_wp2
      go_round
      case rel => exact ⟨k + 1, by omega, by go_num⟩
      case measure => simp [intOf]; omega

set_option maxHeartbeats 400000 in
theorem last22 (s : ByteArray) (i : Nat) (w : World) (hs : s.size ≤ maxLen) (hi : i < s.size) (H : Hid (∀ (j : Nat) (h : j < s.size), i ≤ j → ((s[j].toNat : Int) == 32) = decide (j = i))) :
    Calls Try.prog 22 #[.string s] w fun e w' => e = .returned (.int .i64 i) ∧ w' = w := by
  unfold maxLen at hs
  go_enter Try.func22, Try.ntmps22
  go_wp2
  go_loop [3] (fun v => ∃ k : Nat, i ≤ k ∧ k < s.size ∧ v = .int .i64 k) (fun v => (intOf v).toNat)
  case atStart => exact ⟨s.size - 1, by omega, by omega, by go_num⟩
  case round =>
    obtain ⟨k, hk, hlt, rfl⟩ := hrel
    have g := H.out k hlt hk
    by_cases e : k = i
    · rw [show decide (k = i) = true by simp [e]] at g
      have HE : Hid (k = i) := e
      clear e
      go_wp2
      go_ret
      exact ⟨congrArg (fun z : Nat => Ending.returned (Value.int .i64 (z : Int))) HE.out, rfl⟩
    · rw [show decide (k = i) = false by simp [e]] at g
      have hlt2 : i < k := by omega
      clear e
      go_wp2
      go_round
      case rel => exact ⟨k - 1, by omega, by omega, by go_num⟩
      case measure => simp [intOf]; omega

/-! ### plain facts on the joined string -/
theorem sp_le (s : ByteArray) : sp s ≤ s.size := List.count_le_length
theorem at_list (s : ByteArray) (j : Nat) (h : j < s.size) : s.data.toList[j]? = some s[j] := by
  rw [List.getElem?_eq_getElem (by simpa using h)]; rfl
theorem is32 (x : UInt8) : ((x.toNat : Int) == 32) = decide (x = 32) := by
  rw [Bool.eq_iff_iff, beq_iff_eq, decide_eq_true_iff, ← UInt8.toNat_inj]
  show (x.toNat : Int) = 32 ↔ x.toNat = 32
  omega
theorem not32 {s : ByteArray} (h : sp s = 0) {x : UInt8} (hx : x ∈ s.data.toList) : x ≠ 32 := fun e => by
  have := List.count_eq_zero.1 h
  exact this (e ▸ hx)
theorem len_list (s : ByteArray) : s.data.toList.length = s.size := rfl

theorem before (p q : ByteArray) (hp : sp p = 0) : ∀ (j : Nat) (h : j < (sub p q).size), j ≤ p.size → (((sub p q)[j].toNat : Int) == 32) = decide (j = p.size) := by
  intro j h hj
  have g := at_list (sub p q) j h
  rw [sub_list] at g
  rw [is32]
  by_cases e : j = p.size
  · rw [List.getElem?_append_right (by rw [len_list]; omega), len_list, show j - p.size = 0 by omega] at g
    have g' : (32 : UInt8) = (sub p q)[j] := Option.some.inj g
    rw [← g']; simp [e]
  · rw [List.getElem?_append_left (by rw [len_list]; omega)] at g
    have := not32 hp (List.mem_of_getElem? g)
    simp [this, e]
theorem behind (p q : ByteArray) (hq : sp q = 0) : ∀ (j : Nat) (h : j < (sub p q).size), p.size ≤ j → (((sub p q)[j].toNat : Int) == 32) = decide (j = p.size) := by
  intro j h hj
  have g := at_list (sub p q) j h
  rw [sub_list, List.getElem?_append_right (by rw [len_list]; omega), len_list] at g
  rw [is32]
  by_cases e : j = p.size
  · rw [show j - p.size = 0 by omega] at g
    have g' : (32 : UInt8) = (sub p q)[j] := Option.some.inj g
    rw [← g']; simp [e]
  · rw [show j - p.size = (j - p.size - 1) + 1 by omega, List.getElem?_cons_succ] at g
    have := not32 hq (List.mem_of_getElem? g)
    simp [this, e]
theorem head_eq (p q : ByteArray) : ((sub p q).extract 0 p.size).toList = p.toList := by
  rw [ByteArray.toList_eq, ByteArray.toList_eq, ByteArray.data_extract, Array.toList_extract, List.extract_eq_take_drop, sub_list]
  rw [List.drop_zero, Nat.sub_zero]
  exact List.take_left' (len_list p)
theorem tail_eq (p q : ByteArray) : ((sub p q).extract (p.size + 1) (sub p q).size).toList = q.toList := by
  rw [ByteArray.toList_eq, ByteArray.toList_eq, ByteArray.data_extract, Array.toList_extract, List.extract_eq_take_drop, sub_list]
  have hz := sub_size p q
  rw [List.drop_append, List.drop_eq_nil_of_le (by rw [len_list]; omega), List.nil_append, len_list, show p.size + 1 - p.size = 1 by omega, List.drop_one, List.tail_cons]
  exact List.take_of_length_le (by rw [len_list]; omega)

set_option maxHeartbeats 2000000 in
theorem walk5_tt (p q S : ByteArray) (w : World) (h : p.size + q.size ≤ 1048576) (l1 : p.size ≤ 65536) (l2 : q.size ≤ 65536)
    (HS : Hid (S = sub p q)) (b0 : p.size + 1 + q.size ≤ S.size) (b1 : S.size ≤ p.size + 1 + q.size) (z0 : ((S.size : Int) != (p.size : Int) + 1 + (q.size : Int)) = false)
    (c0 : sp p ≤ 65536) (c1 : sp q ≤ 65536) (z1 : ((sp S : Int) != (sp p : Int) + (sp q : Int) + 1) = false)
    (k1 : ((sp p : Int) == 0) = true) (k2 : ((sp q : Int) == 0) = true) (x1 : (S.extract 0 p.size).toList = p.toList) (x2 : (S.extract (p.size + 1) S.size).toList = q.toList)
    (H1 : Hid (∀ (j : Nat) (h : j < S.size), j ≤ p.size → ((S[j].toNat : Int) == 32) = decide (j = p.size)))
    (H2 : Hid (∀ (j : Nat) (h : j < S.size), p.size ≤ j → ((S[j].toNat : Int) == 32) = decide (j = p.size))) :
    Calls Try.prog 5 #[.string p, .string q] w fun e w' => e = .returned (.bool true) ∧ Grown w w' := by
  go_enter Try.func5, Try.ntmps5
  go_wp2_with fail
  refine (bytes18_yes _ _ _ h).mono ?_
  rintro e w' ⟨rfl, rfl⟩
  go_wp2_with fail
  refine (make19 p q _ (by omega)).mono ?_
  rintro e w' ⟨rfl, rfl⟩
  rw [← HS.out]
  go_wp2_with fail
  refine (spaces20 S _ (by unfold maxLen; omega)).mono ?_
  rintro e w' ⟨rfl, rfl⟩
  go_wp2_with fail
  refine (spaces20 p _ (by unfold maxLen; omega)).mono ?_
  rintro e w' ⟨rfl, rfl⟩
  go_wp2_with fail
  refine (spaces20 q _ (by unfold maxLen; omega)).mono ?_
  rintro e w' ⟨rfl, rfl⟩
  go_wp2_with fail
  refine (spaces20 p _ (by unfold maxLen; omega)).mono ?_
  rintro e w' ⟨rfl, rfl⟩
  go_wp2_with fail
  refine (first21 S p.size _ (by unfold maxLen; omega) (by omega) H1).mono ?_
  rintro e w' ⟨rfl, rfl⟩
  go_wp2_with fail
  refine (spaces20 q _ (by unfold maxLen; omega)).mono ?_
  rintro e w' ⟨rfl, rfl⟩
  go_wp2_with fail
  refine (last22 S p.size _ (by unfold maxLen; omega) (by omega) H2).mono ?_
  rintro e w' ⟨rfl, rfl⟩
  go_wp2
  go_ret
  exact ⟨rfl, by repeat (first | exact Grown.refl _ | apply Grown.drew | apply Grown.alloc)⟩

set_option maxHeartbeats 2000000 in
theorem walk5_tf (p q S : ByteArray) (w : World) (h : p.size + q.size ≤ 1048576) (l1 : p.size ≤ 65536) (l2 : q.size ≤ 65536)
    (HS : Hid (S = sub p q)) (b0 : p.size + 1 + q.size ≤ S.size) (b1 : S.size ≤ p.size + 1 + q.size) (z0 : ((S.size : Int) != (p.size : Int) + 1 + (q.size : Int)) = false)
    (c0 : sp p ≤ 65536) (c1 : sp q ≤ 65536) (z1 : ((sp S : Int) != (sp p : Int) + (sp q : Int) + 1) = false)
    (k1 : ((sp p : Int) == 0) = true) (k2 : ((sp q : Int) == 0) = false) (x1 : (S.extract 0 p.size).toList = p.toList) (x2 : (S.extract (p.size + 1) S.size).toList = q.toList)
    (H1 : Hid (∀ (j : Nat) (h : j < S.size), j ≤ p.size → ((S[j].toNat : Int) == 32) = decide (j = p.size))) :
    Calls Try.prog 5 #[.string p, .string q] w fun e w' => e = .returned (.bool true) ∧ Grown w w' := by
  go_enter Try.func5, Try.ntmps5
  go_wp2_with fail
  refine (bytes18_yes _ _ _ h).mono ?_
  rintro e w' ⟨rfl, rfl⟩
  go_wp2_with fail
  refine (make19 p q _ (by omega)).mono ?_
  rintro e w' ⟨rfl, rfl⟩
  rw [← HS.out]
  go_wp2_with fail
  refine (spaces20 S _ (by unfold maxLen; omega)).mono ?_
  rintro e w' ⟨rfl, rfl⟩
  go_wp2_with fail
  refine (spaces20 p _ (by unfold maxLen; omega)).mono ?_
  rintro e w' ⟨rfl, rfl⟩
  go_wp2_with fail
  refine (spaces20 q _ (by unfold maxLen; omega)).mono ?_
  rintro e w' ⟨rfl, rfl⟩
  go_wp2_with fail
  refine (spaces20 p _ (by unfold maxLen; omega)).mono ?_
  rintro e w' ⟨rfl, rfl⟩
  go_wp2_with fail
  refine (first21 S p.size _ (by unfold maxLen; omega) (by omega) H1).mono ?_
  rintro e w' ⟨rfl, rfl⟩
  go_wp2_with fail
  refine (spaces20 q _ (by unfold maxLen; omega)).mono ?_
  rintro e w' ⟨rfl, rfl⟩
  go_wp2
  go_ret
  exact ⟨rfl, by repeat (first | exact Grown.refl _ | apply Grown.drew | apply Grown.alloc)⟩

set_option maxHeartbeats 2000000 in
theorem walk5_ft (p q S : ByteArray) (w : World) (h : p.size + q.size ≤ 1048576) (l1 : p.size ≤ 65536) (l2 : q.size ≤ 65536)
    (HS : Hid (S = sub p q)) (b0 : p.size + 1 + q.size ≤ S.size) (b1 : S.size ≤ p.size + 1 + q.size) (z0 : ((S.size : Int) != (p.size : Int) + 1 + (q.size : Int)) = false)
    (c0 : sp p ≤ 65536) (c1 : sp q ≤ 65536) (z1 : ((sp S : Int) != (sp p : Int) + (sp q : Int) + 1) = false)
    (k1 : ((sp p : Int) == 0) = false) (k2 : ((sp q : Int) == 0) = true) (x1 : (S.extract 0 p.size).toList = p.toList) (x2 : (S.extract (p.size + 1) S.size).toList = q.toList)
    (H2 : Hid (∀ (j : Nat) (h : j < S.size), p.size ≤ j → ((S[j].toNat : Int) == 32) = decide (j = p.size))) :
    Calls Try.prog 5 #[.string p, .string q] w fun e w' => e = .returned (.bool true) ∧ Grown w w' := by
  go_enter Try.func5, Try.ntmps5
  go_wp2_with fail
  refine (bytes18_yes _ _ _ h).mono ?_
  rintro e w' ⟨rfl, rfl⟩
  go_wp2_with fail
  refine (make19 p q _ (by omega)).mono ?_
  rintro e w' ⟨rfl, rfl⟩
  rw [← HS.out]
  go_wp2_with fail
  refine (spaces20 S _ (by unfold maxLen; omega)).mono ?_
  rintro e w' ⟨rfl, rfl⟩
  go_wp2_with fail
  refine (spaces20 p _ (by unfold maxLen; omega)).mono ?_
  rintro e w' ⟨rfl, rfl⟩
  go_wp2_with fail
  refine (spaces20 q _ (by unfold maxLen; omega)).mono ?_
  rintro e w' ⟨rfl, rfl⟩
  go_wp2_with fail
  refine (spaces20 p _ (by unfold maxLen; omega)).mono ?_
  rintro e w' ⟨rfl, rfl⟩
  go_wp2_with fail
  refine (spaces20 q _ (by unfold maxLen; omega)).mono ?_
  rintro e w' ⟨rfl, rfl⟩
  go_wp2_with fail
  refine (last22 S p.size _ (by unfold maxLen; omega) (by omega) H2).mono ?_
  rintro e w' ⟨rfl, rfl⟩
  go_wp2
  go_ret
  exact ⟨rfl, by repeat (first | exact Grown.refl _ | apply Grown.drew | apply Grown.alloc)⟩

set_option maxHeartbeats 2000000 in
theorem walk5_ff (p q S : ByteArray) (w : World) (h : p.size + q.size ≤ 1048576) (l1 : p.size ≤ 65536) (l2 : q.size ≤ 65536)
    (HS : Hid (S = sub p q)) (b0 : p.size + 1 + q.size ≤ S.size) (b1 : S.size ≤ p.size + 1 + q.size) (z0 : ((S.size : Int) != (p.size : Int) + 1 + (q.size : Int)) = false)
    (c0 : sp p ≤ 65536) (c1 : sp q ≤ 65536) (z1 : ((sp S : Int) != (sp p : Int) + (sp q : Int) + 1) = false)
    (k1 : ((sp p : Int) == 0) = false) (k2 : ((sp q : Int) == 0) = false) (x1 : (S.extract 0 p.size).toList = p.toList) (x2 : (S.extract (p.size + 1) S.size).toList = q.toList) :
    Calls Try.prog 5 #[.string p, .string q] w fun e w' => e = .returned (.bool true) ∧ Grown w w' := by
  go_enter Try.func5, Try.ntmps5
  go_wp2_with fail
  refine (bytes18_yes _ _ _ h).mono ?_
  rintro e w' ⟨rfl, rfl⟩
  go_wp2_with fail
  refine (make19 p q _ (by omega)).mono ?_
  rintro e w' ⟨rfl, rfl⟩
  rw [← HS.out]
  go_wp2_with fail
  refine (spaces20 S _ (by unfold maxLen; omega)).mono ?_
  rintro e w' ⟨rfl, rfl⟩
  go_wp2_with fail
  refine (spaces20 p _ (by unfold maxLen; omega)).mono ?_
  rintro e w' ⟨rfl, rfl⟩
  go_wp2_with fail
  refine (spaces20 q _ (by unfold maxLen; omega)).mono ?_
  rintro e w' ⟨rfl, rfl⟩
  go_wp2_with fail
  refine (spaces20 p _ (by unfold maxLen; omega)).mono ?_
  rintro e w' ⟨rfl, rfl⟩
  go_wp2_with fail
  refine (spaces20 q _ (by unfold maxLen; omega)).mono ?_
  rintro e w' ⟨rfl, rfl⟩
  go_wp2
  go_ret
  exact ⟨rfl, by repeat (first | exact Grown.refl _ | apply Grown.drew | apply Grown.alloc)⟩

set_option maxHeartbeats 400000 in
theorem walk5_long (a b : ByteArray) (w : World) (h : a.size + b.size ≤ 1048576) (hl : 65536 < a.size ∨ 65536 < b.size) :
    Calls Try.prog 5 #[.string a, .string b] w fun e w' => e = .returned (.bool true) ∧ Grown w w' := by
  go_enter Try.func5, Try.ntmps5
  go_wp2_with fail
  refine (bytes18_yes _ _ _ h).mono ?_
  rintro e w' ⟨rfl, rfl⟩
  by_cases l1 : 65536 < a.size
  · clear hl
    go_wp2
    go_ret
    exact ⟨rfl, Grown.refl _⟩
  · have l2 : 65536 < b.size := by omega
    clear hl
    go_wp2
    go_ret
    exact ⟨rfl, Grown.refl _⟩
theorem walk5_no (a b : ByteArray) (w : World) (h : 1048576 < a.size + b.size) :
    Calls Try.prog 5 #[.string a, .string b] w fun e w' => e = .returned (.bool true) ∧ Grown w w' := by
  go_enter Try.func5, Try.ntmps5
  go_wp2_with fail
  refine (bytes18_no _ _ _ h).mono ?_
  rintro e w' ⟨rfl, rfl⟩
  go_wp2
  go_ret
  exact ⟨rfl, Grown.refl _⟩

theorem walk5 (a0 a1 : ByteArray) (w0 : a0.size ≤ maxLen) (w1 : a1.size ≤ maxLen) (w : World) :
    Calls Try.prog 5 #[.string a0, .string a1] w fun e w' => e = .returned (.bool true) ∧ Grown w w' := by
  by_cases h : a0.size + a1.size ≤ 1048576
  · by_cases hl : 65536 < a0.size ∨ 65536 < a1.size
    · exact walk5_long a0 a1 w h hl
    · have hz := sub_size a0 a1
      have hp := sp_le a0
      have hq := sp_le a1
      have hs := sub_sp a0 a1
      have z0 : (((sub a0 a1).size : Int) != (a0.size : Int) + 1 + (a1.size : Int)) = false := by rw [bne_eq_false_iff_eq]; omega
      have z1 : ((sp (sub a0 a1) : Int) != (sp a0 : Int) + (sp a1 : Int) + 1) = false := by rw [bne_eq_false_iff_eq]; omega
      by_cases s1 : sp a0 = 0
      · have k1 : ((sp a0 : Int) == 0) = true := by rw [s1]; rfl
        by_cases s2 : sp a1 = 0
        · have k2 : ((sp a1 : Int) == 0) = true := by rw [s2]; rfl
          exact walk5_tt a0 a1 (sub a0 a1) w h (by omega) (by omega) rfl (by omega) (by omega) z0 (by omega) (by omega) z1 k1 k2 (head_eq a0 a1) (tail_eq a0 a1) (before a0 a1 s1) (behind a0 a1 s2)
        · have k2 : ((sp a1 : Int) == 0) = false := by rw [beq_eq_false_iff_ne]; omega
          exact walk5_tf a0 a1 (sub a0 a1) w h (by omega) (by omega) rfl (by omega) (by omega) z0 (by omega) (by omega) z1 k1 k2 (head_eq a0 a1) (tail_eq a0 a1) (before a0 a1 s1)
      · have k1 : ((sp a0 : Int) == 0) = false := by rw [beq_eq_false_iff_ne]; omega
        by_cases s2 : sp a1 = 0
        · have k2 : ((sp a1 : Int) == 0) = true := by rw [s2]; rfl
          exact walk5_ft a0 a1 (sub a0 a1) w h (by omega) (by omega) rfl (by omega) (by omega) z0 (by omega) (by omega) z1 k1 k2 (head_eq a0 a1) (tail_eq a0 a1) (behind a0 a1 s2)
        · have k2 : ((sp a1 : Int) == 0) = false := by rw [beq_eq_false_iff_ne]; omega
          exact walk5_ff a0 a1 (sub a0 a1) w h (by omega) (by omega) rfl (by omega) (by omega) z0 (by omega) (by omega) z1 k1 k2 (head_eq a0 a1) (tail_eq a0 a1)
  · exact walk5_no a0 a1 w (by omega)
end Go.Proofs.Qxb6605742a
