/-
  Classify BY ITS CONTRACTS: at an error that is a pointer to an ArgumentError, a CursorError, a StoreError; and the four one-line shims over it.
-/
import Derived.Test.Qxb6605616aDoorAs
namespace Go.Proofs.Qxb6605616aDoor
open Go.RowKit Go.Extern.Stop Go.Stop Go.Extern

theorem noFrozen (w : World) (a : Addr) (h : w.heap.size ≤ a.block) : w.frozen? a = false := by
  simp [World.frozen?, Array.getElem?_eq_none h]
/-- a cell that is there stays under a new block -/
theorem kept {w : World} {a : Addr} {v : Value} (h : w.cell? a = some v) (o : Obj) : (w.alloc o).cell? a = some v := by
  have hl : a.block < w.heap.size := by
    rcases Nat.lt_or_ge a.block w.heap.size with h' | h'
    · exact h'
    · simp [World.cell?, Array.getElem?_eq_none h'] at h
  rw [World.cell?_alloc_lt _ _ a hl]; exact h

set_option maxHeartbeats 1000000 in
theorem classify23 (p : Addr) (w : World) (hg : w.cell? ⟨0, 0, none⟩ = some (.iface 60 (.agg #[.pointer (some ⟨1, 39, none⟩)]))) :
    Calls Tryd.prog 11 #[.iface 23 (.pointer (some p))] w fun ev w' => ev = .returned (.agg #[.pointer none, .pointer (some p), .pointer none]) ∧ Grown w w' ∧ Below w.heap.size w w' := by
  go_enter Tryd.func11, Tryd.ntmps11
  go_wp2_with fail
  refine (as_miss23_43 _ _ _ (kept (kept hg _) _)).mono ?_
  rintro e1 w1 ⟨rfl, rfl⟩
  go_wp2_with fail
  refine (as_hit23 _ _ (.pointer none) _ (kept (kept (kept (kept (kept hg _) _) _) _) _) ?_ ?_).mono ?_
  · exact (kept (kept (kept (show _ = some (Value.pointer none) by simp) _) _) _)
  · simp only [frozen?_alloc_cells]; exact noFrozen w _ (by simp)
  rintro e1 w1 ⟨rfl, rfl⟩
  go_wp2
  exact bodyPost_ret (v := .agg #[.pointer none, .pointer (some p), .pointer none]) (by simp [results, Tryd.results11, go_sem]) rfl ⟨rfl, by repeat (first | exact Grown.refl _ | apply Grown.alloc), by repeat (first | exact Below.refl _ _ | (refine Below.alloc ?_ (by simp; omega) _) | (refine Below.alloc ?_ (by simp) _))⟩

set_option maxHeartbeats 1000000 in
theorem classify27 (p : Addr) (w : World) (hg : w.cell? ⟨0, 0, none⟩ = some (.iface 60 (.agg #[.pointer (some ⟨1, 39, none⟩)]))) :
    Calls Tryd.prog 11 #[.iface 27 (.pointer (some p))] w fun ev w' => ev = .returned (.agg #[.pointer none, .pointer none, .pointer (some p)]) ∧ Grown w w' ∧ Below w.heap.size w w' := by
  go_enter Tryd.func11, Tryd.ntmps11
  go_wp2_with fail
  refine (as_miss27_43 _ _ _ (kept (kept hg _) _)).mono ?_
  rintro e1 w1 ⟨rfl, rfl⟩
  go_wp2_with fail
  refine (as_miss27_44 _ _ _ (kept (kept (kept (kept (kept hg _) _) _) _) _)).mono ?_
  rintro e1 w1 ⟨rfl, rfl⟩
  go_wp2_with fail
  refine (as_hit27 _ _ (.pointer none) _ (kept (kept (kept (kept (kept (kept (kept (kept hg _) _) _) _) _) _) _) _) ?_ ?_).mono ?_
  · exact (kept (kept (kept (kept (kept (kept (show _ = some (Value.pointer none) by simp) _) _) _) _) _) _)
  · simp only [frozen?_alloc_cells]; exact noFrozen w _ (by simp)
  rintro e1 w1 ⟨rfl, rfl⟩
  go_wp2
  exact bodyPost_ret (v := .agg #[.pointer none, .pointer none, .pointer (some p)]) (by simp [results, Tryd.results11, go_sem]) rfl ⟨rfl, by repeat (first | exact Grown.refl _ | apply Grown.alloc), by repeat (first | exact Below.refl _ _ | (refine Below.alloc ?_ (by simp; omega) _) | (refine Below.alloc ?_ (by simp) _))⟩

set_option maxHeartbeats 1000000 in
theorem classify26 (p : Addr) (w : World) (hg : w.cell? ⟨0, 0, none⟩ = some (.iface 60 (.agg #[.pointer (some ⟨1, 39, none⟩)]))) :
    Calls Tryd.prog 11 #[.iface 26 (.pointer (some p))] w fun ev w' => ev = .returned (.agg #[.pointer (some p), .pointer none, .pointer none]) ∧ Grown w w' ∧ Below w.heap.size w w' := by
  go_enter Tryd.func11, Tryd.ntmps11
  go_wp2_with fail
  refine (as_hit26 _ _ (.pointer none) _ (kept (kept hg _) _) ?_ ?_).mono ?_
  · exact (show _ = some (Value.pointer none) by simp)
  · simp only [frozen?_alloc_cells]; exact noFrozen w _ (by simp)
  rintro e1 w1 ⟨rfl, rfl⟩
  go_wp2
  exact bodyPost_ret (v := .agg #[.pointer (some p), .pointer none, .pointer none]) (by simp [results, Tryd.results11, go_sem]) rfl ⟨rfl, by repeat (first | exact Grown.refl _ | apply Grown.alloc), by repeat (first | exact Below.refl _ _ | (refine Below.alloc ?_ (by simp; omega) _) | (refine Below.alloc ?_ (by simp) _))⟩

theorem grown_trans {a b c : World} (h : Grown a b) (k : Grown b c) : Grown a c :=
  ⟨World.keptBut_trans h.1 k.1, fun x => (k.2.1 x).trans (h.2.1 x), Nat.le_trans h.2.2 k.2.2⟩
theorem bcell {W w1 : World} (hb : Below W.heap.size W w1) : (∀ b o, b < W.heap.size → w1.cell? ⟨b, o, none⟩ = W.cell? ⟨b, o, none⟩) ∧ (∀ b o, b < W.heap.size → w1.frozen? ⟨b, o, none⟩ = W.frozen? ⟨b, o, none⟩) :=
  ⟨fun b o h => hb.cell (p := ⟨b, o, none⟩) h, fun b o h => hb.frozen (p := ⟨b, o, none⟩) h⟩

set_option maxHeartbeats 1000000 in
theorem shim23 (p : Addr) (w : World) (hg : w.cell? ⟨0, 0, none⟩ = some (.iface 60 (.agg #[.pointer (some ⟨1, 39, none⟩)]))) :
    Calls Tryd.prog 6 #[.pointer (some p)] w fun ev w' => ev = .returned (.agg #[.pointer none, .pointer (some p), .pointer none]) ∧ Grown w w' ∧ Below w.heap.size w w' := by
  go_enter Tryd.func6, Tryd.ntmps6
  go_wp2_with fail
  refine (classify23 _ _ (kept hg _)).mono ?_
  rintro e1 w1 ⟨rfl, hgr, hb⟩
  obtain ⟨hc, hf⟩ := bcell hb
  have hz := hb.size
  simp at hz
  go_wp2
  exact bodyPost_ret (v := .agg #[.pointer none, .pointer (some p), .pointer none]) (by simp [results, Tryd.results6, go_sem, hc]) rfl
    ⟨rfl, (((grown_trans ((Grown.refl w).alloc _ _) hgr).setCell (Nat.le_refl _) _).setCell (Nat.le_refl _) _).setCell (Nat.le_refl _) _,
      (((((Below.refl _ w).alloc (Nat.le_refl _) _).trans (hb.mono (by simp))).setCell (Nat.le_refl _) _).setCell (Nat.le_refl _) _).setCell (Nat.le_refl _) _⟩

set_option maxHeartbeats 1000000 in
theorem shim27 (p : Addr) (w : World) (hg : w.cell? ⟨0, 0, none⟩ = some (.iface 60 (.agg #[.pointer (some ⟨1, 39, none⟩)]))) :
    Calls Tryd.prog 8 #[.pointer (some p)] w fun ev w' => ev = .returned (.agg #[.pointer none, .pointer none, .pointer (some p)]) ∧ Grown w w' ∧ Below w.heap.size w w' := by
  go_enter Tryd.func8, Tryd.ntmps8
  go_wp2_with fail
  refine (classify27 _ _ (kept hg _)).mono ?_
  rintro e1 w1 ⟨rfl, hgr, hb⟩
  obtain ⟨hc, hf⟩ := bcell hb
  have hz := hb.size
  simp at hz
  go_wp2
  exact bodyPost_ret (v := .agg #[.pointer none, .pointer none, .pointer (some p)]) (by simp [results, Tryd.results8, go_sem, hc]) rfl
    ⟨rfl, (((grown_trans ((Grown.refl w).alloc _ _) hgr).setCell (Nat.le_refl _) _).setCell (Nat.le_refl _) _).setCell (Nat.le_refl _) _,
      (((((Below.refl _ w).alloc (Nat.le_refl _) _).trans (hb.mono (by simp))).setCell (Nat.le_refl _) _).setCell (Nat.le_refl _) _).setCell (Nat.le_refl _) _⟩

set_option maxHeartbeats 1000000 in
theorem shim26 (p : Addr) (w : World) (hg : w.cell? ⟨0, 0, none⟩ = some (.iface 60 (.agg #[.pointer (some ⟨1, 39, none⟩)]))) :
    Calls Tryd.prog 10 #[.pointer (some p)] w fun ev w' => ev = .returned (.agg #[.pointer (some p), .pointer none, .pointer none]) ∧ Grown w w' ∧ Below w.heap.size w w' := by
  go_enter Tryd.func10, Tryd.ntmps10
  go_wp2_with fail
  refine (classify26 _ _ (kept hg _)).mono ?_
  rintro e1 w1 ⟨rfl, hgr, hb⟩
  obtain ⟨hc, hf⟩ := bcell hb
  have hz := hb.size
  simp at hz
  go_wp2
  exact bodyPost_ret (v := .agg #[.pointer (some p), .pointer none, .pointer none]) (by simp [results, Tryd.results10, go_sem, hc]) rfl
    ⟨rfl, (((grown_trans ((Grown.refl w).alloc _ _) hgr).setCell (Nat.le_refl _) _).setCell (Nat.le_refl _) _).setCell (Nat.le_refl _) _,
      (((((Below.refl _ w).alloc (Nat.le_refl _) _).trans (hb.mono (by simp))).setCell (Nat.le_refl _) _).setCell (Nat.le_refl _) _).setCell (Nat.le_refl _) _⟩

end Go.Proofs.Qxb6605616aDoor
