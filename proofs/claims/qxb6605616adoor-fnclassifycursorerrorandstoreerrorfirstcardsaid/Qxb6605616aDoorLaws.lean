/-
  THE TWO LAWS' WALKS, the callees by their contracts.
-/
import Derived.Test.Qxb6605616aDoorClass
import Derived.LaidEqlPtr
namespace Go.Proofs.Qxb6605616aDoor
open Go.RowKit Go.Extern.Stop Go.Stop Go.Extern

/-! ### the program's own bounds on the total length -/
theorem bytes5_yes (a0 a3 a5 : ByteArray) (a1 a2 : Int) (a4 : Bool) (w : World) (h : a0.size + a3.size + a5.size ≤ 1048576) :
    Calls Tryd.prog 5 #[.string a0, .int .i64 a1, .int .i64 a2, .string a3, .bool a4, .string a5] w fun e w' => e = .returned (.bool true) ∧ w' = w := by
  go_enter Tryd.func5, Tryd.ntmps5
  go_wp2
  go_ret
  exact ⟨rfl, rfl⟩
theorem bytes5_no (a0 a3 a5 : ByteArray) (a1 a2 : Int) (a4 : Bool) (w : World) (h : 1048576 < a0.size + a3.size + a5.size) :
    Calls Tryd.prog 5 #[.string a0, .int .i64 a1, .int .i64 a2, .string a3, .bool a4, .string a5] w fun e w' => e = .returned (.bool false) ∧ w' = w := by
  go_enter Tryd.func5, Tryd.ntmps5
  go_wp2
  all_goals (go_ret; exact ⟨rfl, rfl⟩)
theorem bytes7_yes (a0 a1 : ByteArray) (w : World) (h : a0.size + a1.size ≤ 1048576) :
    Calls Tryd.prog 7 #[.string a0, .string a1] w fun e w' => e = .returned (.bool true) ∧ w' = w := by
  go_enter Tryd.func7, Tryd.ntmps7
  go_wp2
  go_ret
  exact ⟨rfl, rfl⟩
theorem bytes7_no (a0 a1 : ByteArray) (w : World) (h : 1048576 < a0.size + a1.size) :
    Calls Tryd.prog 7 #[.string a0, .string a1] w fun e w' => e = .returned (.bool false) ∧ w' = w := by
  go_enter Tryd.func7, Tryd.ntmps7
  go_wp2
  all_goals (go_ret; exact ⟨rfl, rfl⟩)

theorem lt_of_cell {w : World} {a : Addr} {v : Value} (h : w.cell? a = some v) : a.block < w.heap.size := by
  rcases Nat.lt_or_ge a.block w.heap.size with h' | h'
  · exact h'
  · simp [World.cell?, Array.getElem?_eq_none h'] at h
/-! ### '==' of a pointer with itself -/
theorem same23 (a : Addr) (w : World) : (binOp .eql 23 (.pointer (some a)) (.pointer (some a))).run Tryd.prog w = .ok (.bool true) w := by
  obtain ⟨j, hj⟩ := Option.isSome_iff_exists.1 (show (Tryd.prog.info? 25).isSome = true by kernel_rfl)
  exact run_eql_ptr_same w a Tryd.underlying23 hj
theorem same26 (a : Addr) (w : World) : (binOp .eql 26 (.pointer (some a)) (.pointer (some a))).run Tryd.prog w = .ok (.bool true) w := by
  obtain ⟨j, hj⟩ := Option.isSome_iff_exists.1 (show (Tryd.prog.info? 41).isSome = true by kernel_rfl)
  exact run_eql_ptr_same w a Tryd.underlying26 hj
theorem same27 (a : Addr) (w : World) : (binOp .eql 27 (.pointer (some a)) (.pointer (some a))).run Tryd.prog w = .ok (.bool true) w := by
  obtain ⟨j, hj⟩ := Option.isSome_iff_exists.1 (show (Tryd.prog.info? 33).isSome = true by kernel_rfl)
  exact run_eql_ptr_same w a Tryd.underlying27 hj

set_option maxHeartbeats 1000000 in
theorem walk3 (a0 : ByteArray) (a1 a2 : Int) (a3 : ByteArray) (a4 : Bool) (a5 : ByteArray) (w : World) (hg : w.cell? ⟨0, 0, none⟩ = some (.iface 60 (.agg #[.pointer (some ⟨1, 39, none⟩)]))) :
    Calls Tryd.prog 3 #[.string a0, .int .i64 a1, .int .i64 a2, .string a3, .bool a4, .string a5] w fun e w' => e = .returned (.bool true) ∧ Grown w w' := by
  by_cases h : a0.size + a3.size + a5.size ≤ 1048576
  · have s23 := same23
    go_enter Tryd.func3, Tryd.ntmps3
    go_wp2_with (go_at_call 5; refine (bytes5_yes _ _ _ _ _ _ _ h).mono ?_; rintro e w' ⟨rfl, rfl⟩)
    refine (shim23 _ _ (kept hg _)).mono ?_
    rintro e1 w1 ⟨rfl, hgr, hb⟩
    go_wp2
    go_ret
    exact ⟨rfl, (grown_trans ((Grown.refl _).alloc _ _) hgr).alloc _ _⟩
  · go_enter Tryd.func3, Tryd.ntmps3
    go_wp2_with (go_at_call 5; refine (bytes5_no _ _ _ _ _ _ _ (by omega)).mono ?_; rintro e w' ⟨rfl, rfl⟩)
    go_ret
    exact ⟨rfl, Grown.refl _⟩

theorem store9 (c : Addr) (w : World) : Calls Tryd.prog 9 #[.pointer (some c)] w fun e w' => e = .returned (.pointer (some ⟨w.heap.size, 0, none⟩)) ∧ w' = w.alloc (.cells #[.iface 27 (.pointer (some c))] 41) := by
  go_enter Tryd.func9, Tryd.ntmps9
  go_wp2
  go_ret
  exact ⟨rfl, rfl⟩

set_option maxHeartbeats 1000000 in
theorem walk4 (a0 a1 : ByteArray) (w : World) (hg : w.cell? ⟨0, 0, none⟩ = some (.iface 60 (.agg #[.pointer (some ⟨1, 39, none⟩)]))) :
    Calls Tryd.prog 4 #[.string a0, .string a1] w fun e w' => e = .returned (.bool true) ∧ Grown w w' := by
  by_cases h : a0.size + a1.size ≤ 1048576
  · have s26 := same26
    have s27 := same27
    go_enter Tryd.func4, Tryd.ntmps4
    go_wp2_with (go_at_call 7; refine (bytes7_yes _ _ _ h).mono ?_; rintro e w' ⟨rfl, rfl⟩)
    refine (shim27 _ _ (kept hg _)).mono ?_
    rintro e1 w1 ⟨rfl, hgr, hb⟩
    have hg1 := hb.cell (p := ⟨0, 0, none⟩) (lt_of_cell (kept hg _))
    rw [kept hg _] at hg1
    go_wp2_with fail
    refine (store9 _ _).mono ?_
    rintro e2 w2 ⟨rfl, rfl⟩
    go_wp2_with fail
    refine (shim26 _ _ (kept (kept (kept hg1 _) _) _)).mono ?_
    rintro e3 w3 ⟨rfl, hgr3, hb3⟩
    have k0 := fun o => kept ((hb3.cell (p := ⟨w1.heap.size, 0, none⟩) (by simp; omega)).trans (kept (kept (show _ = some (Value.pointer none) by simp) _) _)) o
    have k1 := fun o => kept ((hb3.cell (p := ⟨w1.heap.size, 1, none⟩) (by simp; omega)).trans (kept (kept (show _ = some (Value.pointer none) by simp) _) _)) o
    have k2 := fun o => kept ((hb3.cell (p := ⟨w1.heap.size, 2, none⟩) (by simp; omega)).trans (kept (kept (show _ = some (Value.pointer (some ⟨w'.heap.size, 0, none⟩)) by simp) _) _)) o
    clear hb hb3 hg hg1
    go_wp2
    go_ret
    exact ⟨rfl, (grown_trans ((((grown_trans ((Grown.refl _).alloc _ _) hgr).alloc _ _).alloc _ _).alloc _ _) hgr3).alloc _ _⟩
  · go_enter Tryd.func4, Tryd.ntmps4
    go_wp2_with (go_at_call 7; refine (bytes7_no _ _ _ (by omega)).mono ?_; rintro e w' ⟨rfl, rfl⟩)
    go_ret
    exact ⟨rfl, Grown.refl _⟩
end Go.Proofs.Qxb6605616aDoor
