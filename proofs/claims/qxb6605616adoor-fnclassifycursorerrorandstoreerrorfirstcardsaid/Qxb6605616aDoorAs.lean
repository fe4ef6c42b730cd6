/-
  errors.As BY ITS CONTRACTS AT THIS PROGRAM's TYPES: Go's own text of errors.As and errors.as walked (after the guide text ToyasAs.lean): 'as_hitD' (the error's own dynamic type D is the target's element type: true, the target set) and 'as_missD_T' (another dynamic type, with no methods As and Unwrap: false, the target as it was).
-/
import Derived.Test.Qxb6605616aDoorFacts
namespace Go.Proofs.Qxb6605616aDoor
open Go.RowKit Go.Extern.Stop Go.Stop Go.Extern

set_option maxHeartbeats 4000000 in
theorem as_hit26 (e t : Addr) (old : Value) (w : World) (hg : w.cell? ⟨0, 0, none⟩ = some (.iface 60 (.agg #[.pointer (some ⟨1, 39, none⟩)]))) (ht0 : w.cell? t = some old) (hf0 : w.frozen? t = false) :
    Calls Tryd.prog 12 #[.iface 26 (.pointer (some e)), .iface 43 (.pointer (some t))] w fun ev w' => ev = .returned (.bool true) ∧ w' = ((((w.alloc (.cells #[.pointer (some t)] 43)).alloc (.cells #[.pointer (some ⟨1, 43, none⟩), .pointer (some ⟨w.heap.size, 0, none⟩), .int .u64 150] 49)).alloc (.cells #[.pointer (some ⟨1, 43, none⟩), .pointer (some ⟨w.heap.size, 0, none⟩), .int .u64 150] 49)).alloc (.cells #[.pointer (some e)] 26)).setCell t (.pointer (some e)) := by
  have h13 := @run_callFunc_extern Tryd.prog 13 _ (fun args => ReflectliteValue.unpack (args.getD 0 (.tuple #[]))) Tryd.func13 (by kernel_rfl) (by kernel_rfl) (by kernel_rfl) (by kernel_rfl)
  have h14 := @run_callFunc_extern Tryd.prog 14 _ (ReflectliteValue.methodAny (ReflectliteValue.valueError "reflectlite.Value.Type" 0) (fun t _ _ _ => ReflectliteType.toType t)) Tryd.func14 (by kernel_rfl) (by kernel_rfl) (by kernel_rfl) (by kernel_rfl)
  have h15 := @run_callFunc_extern Tryd.prog 15 _ (ReflectliteValue.method (ReflectliteValue.valueError "reflectlite.Value.IsNil" 0) ReflectliteValue.isNil) Tryd.func15 (by kernel_rfl) (by kernel_rfl) (by kernel_rfl) (by kernel_rfl)
  have h34 := @run_callFunc_extern Tryd.prog 34 _ (ReflectliteType.abiMethod fun t => do pure (.int .u8 (← Rtype.kind t))) Tryd.func34 (by kernel_rfl) (by kernel_rfl) (by kernel_rfl) (by kernel_rfl)
  have h47 := @run_callFunc_extern Tryd.prog 47 _ (ReflectliteType.method ReflectliteType.elem) Tryd.func47 (by kernel_rfl) (by kernel_rfl) (by kernel_rfl) (by kernel_rfl)
  have h48 := @run_callFunc_extern Tryd.prog 48 _ (ReflectliteType.relation "Implements" ReflectliteType.implements_) Tryd.func48 (by kernel_rfl) (by kernel_rfl) (by kernel_rfl) (by kernel_rfl)
  have h17 := @run_callFunc_extern Tryd.prog 17 _ ReflectliteType.typeOf Tryd.func17 (by kernel_rfl) (by kernel_rfl) (by kernel_rfl) (by kernel_rfl)
  have h45 := @run_callFunc_extern Tryd.prog 45 _ (ReflectliteType.relation "AssignableTo" ReflectliteType.assignableTo) Tryd.func45 (by kernel_rfl) (by kernel_rfl) (by kernel_rfl) (by kernel_rfl)
  have h18 := @run_callFunc_extern Tryd.prog 18 _ (ReflectliteValue.method (ReflectliteValue.valueError "reflectlite.Value.Elem" 0) ReflectliteValue.elem) Tryd.func18 (by kernel_rfl) (by kernel_rfl) (by kernel_rfl) (by kernel_rfl)
  have h19 := @run_callFunc_extern Tryd.prog 19 _ ReflectliteValue.set Tryd.func19 (by kernel_rfl) (by kernel_rfl) (by kernel_rfl) (by kernel_rfl)
  have vD := Tryd.valueOf26
  have tO := Tryd.typeOf26
  have mA := Tryd.methodAssignableTo
  have aD := Tryd.assignable26_26
  have f13 := Tryd.valueOf43
  have f14 := Tryd.type43
  have mK := Tryd.methodKind
  have mE := Tryd.methodElem
  have mI := Tryd.methodImplements
  have kT := Tryd.kind43
  have kE := Tryd.kind26
  have eT := Tryd.elem43
  have iE := Tryd.implements26
  have n15 := Tryd.isNil43 ⟨w.heap.size, 0, none⟩ t ((w.alloc (.cells #[.pointer (some t)] 43)).alloc (.cells #[.pointer (some ⟨1, 43, none⟩), .pointer (some ⟨w.heap.size, 0, none⟩), .int .u64 150] 49)) (by simp)
  have hlt : 0 < w.heap.size := by
    rcases Nat.eq_zero_or_pos w.heap.size with h0 | h
    · simp [World.cell?, h0] at hg
    · exact h
  have hg2 : ((w.alloc (.cells #[.pointer (some t)] 43)).alloc (.cells #[.pointer (some ⟨1, 43, none⟩), .pointer (some ⟨w.heap.size, 0, none⟩), .int .u64 150] 49)).cell? ⟨0, 0, none⟩ = some (.iface 60 (.agg #[.pointer (some ⟨1, 39, none⟩)])) := by
    rw [World.cell?_alloc_lt _ _ ⟨0, 0, none⟩ (by simp), World.cell?_alloc_lt _ _ ⟨0, 0, none⟩ hlt]; exact hg
  have htl : t.block < w.heap.size := by
    rcases Nat.lt_or_ge t.block w.heap.size with h | h
    · exact h
    · simp [World.cell?, Array.getElem?_eq_none h] at ht0
  have el := Tryd.elemV43 ⟨w.heap.size, 0, none⟩ t (((w.alloc (.cells #[.pointer (some t)] 43)).alloc (.cells #[.pointer (some ⟨1, 43, none⟩), .pointer (some ⟨w.heap.size, 0, none⟩), .int .u64 150] 49)).alloc (.cells #[.pointer (some ⟨1, 43, none⟩), .pointer (some ⟨w.heap.size, 0, none⟩), .int .u64 150] 49)) (by rw [World.cell?_alloc_lt _ _ ⟨w.heap.size, 0, none⟩ (by simp; omega)]; simp)
  have st := Tryd.set26 t ⟨w.heap.size + 1 + 1 + 1, 0, none⟩ e old ((((w.alloc (.cells #[.pointer (some t)] 43)).alloc (.cells #[.pointer (some ⟨1, 43, none⟩), .pointer (some ⟨w.heap.size, 0, none⟩), .int .u64 150] 49)).alloc (.cells #[.pointer (some ⟨1, 43, none⟩), .pointer (some ⟨w.heap.size, 0, none⟩), .int .u64 150] 49)).alloc (.cells #[.pointer (some e)] 26))
    (by rw [World.cell?_alloc_at _ _ _ _ (by simp)]; rfl)
    (by rw [World.cell?_alloc_lt _ _ t (by simp; omega), World.cell?_alloc_lt _ _ t (by simp; omega), World.cell?_alloc_lt _ _ t (by simp; omega), World.cell?_alloc_lt _ _ t htl]; exact ht0)
    (by rw [World.frozen?_alloc_old _ _ t (by simp; omega), World.frozen?_alloc_old _ _ t (by simp; omega), World.frozen?_alloc_old _ _ t (by simp; omega), World.frozen?_alloc_old _ _ t (Nat.ne_of_lt htl)]; exact hf0)
  go_enter Tryd.func12, Tryd.ntmps12
  go_wp2
  refine wp_loop_rounds 1 ?_
  rw [rounds_succ]
  go_wp2
  go_ret
  exact ⟨rfl, rfl⟩

set_option maxHeartbeats 4000000 in
theorem as_hit23 (e t : Addr) (old : Value) (w : World) (hg : w.cell? ⟨0, 0, none⟩ = some (.iface 60 (.agg #[.pointer (some ⟨1, 39, none⟩)]))) (ht0 : w.cell? t = some old) (hf0 : w.frozen? t = false) :
    Calls Tryd.prog 12 #[.iface 23 (.pointer (some e)), .iface 44 (.pointer (some t))] w fun ev w' => ev = .returned (.bool true) ∧ w' = ((((w.alloc (.cells #[.pointer (some t)] 44)).alloc (.cells #[.pointer (some ⟨1, 44, none⟩), .pointer (some ⟨w.heap.size, 0, none⟩), .int .u64 150] 49)).alloc (.cells #[.pointer (some ⟨1, 44, none⟩), .pointer (some ⟨w.heap.size, 0, none⟩), .int .u64 150] 49)).alloc (.cells #[.pointer (some e)] 23)).setCell t (.pointer (some e)) := by
  have h13 := @run_callFunc_extern Tryd.prog 13 _ (fun args => ReflectliteValue.unpack (args.getD 0 (.tuple #[]))) Tryd.func13 (by kernel_rfl) (by kernel_rfl) (by kernel_rfl) (by kernel_rfl)
  have h14 := @run_callFunc_extern Tryd.prog 14 _ (ReflectliteValue.methodAny (ReflectliteValue.valueError "reflectlite.Value.Type" 0) (fun t _ _ _ => ReflectliteType.toType t)) Tryd.func14 (by kernel_rfl) (by kernel_rfl) (by kernel_rfl) (by kernel_rfl)
  have h15 := @run_callFunc_extern Tryd.prog 15 _ (ReflectliteValue.method (ReflectliteValue.valueError "reflectlite.Value.IsNil" 0) ReflectliteValue.isNil) Tryd.func15 (by kernel_rfl) (by kernel_rfl) (by kernel_rfl) (by kernel_rfl)
  have h34 := @run_callFunc_extern Tryd.prog 34 _ (ReflectliteType.abiMethod fun t => do pure (.int .u8 (← Rtype.kind t))) Tryd.func34 (by kernel_rfl) (by kernel_rfl) (by kernel_rfl) (by kernel_rfl)
  have h47 := @run_callFunc_extern Tryd.prog 47 _ (ReflectliteType.method ReflectliteType.elem) Tryd.func47 (by kernel_rfl) (by kernel_rfl) (by kernel_rfl) (by kernel_rfl)
  have h48 := @run_callFunc_extern Tryd.prog 48 _ (ReflectliteType.relation "Implements" ReflectliteType.implements_) Tryd.func48 (by kernel_rfl) (by kernel_rfl) (by kernel_rfl) (by kernel_rfl)
  have h17 := @run_callFunc_extern Tryd.prog 17 _ ReflectliteType.typeOf Tryd.func17 (by kernel_rfl) (by kernel_rfl) (by kernel_rfl) (by kernel_rfl)
  have h45 := @run_callFunc_extern Tryd.prog 45 _ (ReflectliteType.relation "AssignableTo" ReflectliteType.assignableTo) Tryd.func45 (by kernel_rfl) (by kernel_rfl) (by kernel_rfl) (by kernel_rfl)
  have h18 := @run_callFunc_extern Tryd.prog 18 _ (ReflectliteValue.method (ReflectliteValue.valueError "reflectlite.Value.Elem" 0) ReflectliteValue.elem) Tryd.func18 (by kernel_rfl) (by kernel_rfl) (by kernel_rfl) (by kernel_rfl)
  have h19 := @run_callFunc_extern Tryd.prog 19 _ ReflectliteValue.set Tryd.func19 (by kernel_rfl) (by kernel_rfl) (by kernel_rfl) (by kernel_rfl)
  have vD := Tryd.valueOf23
  have tO := Tryd.typeOf23
  have mA := Tryd.methodAssignableTo
  have aD := Tryd.assignable23_23
  have f13 := Tryd.valueOf44
  have f14 := Tryd.type44
  have mK := Tryd.methodKind
  have mE := Tryd.methodElem
  have mI := Tryd.methodImplements
  have kT := Tryd.kind44
  have kE := Tryd.kind23
  have eT := Tryd.elem44
  have iE := Tryd.implements23
  have n15 := Tryd.isNil44 ⟨w.heap.size, 0, none⟩ t ((w.alloc (.cells #[.pointer (some t)] 44)).alloc (.cells #[.pointer (some ⟨1, 44, none⟩), .pointer (some ⟨w.heap.size, 0, none⟩), .int .u64 150] 49)) (by simp)
  have hlt : 0 < w.heap.size := by
    rcases Nat.eq_zero_or_pos w.heap.size with h0 | h
    · simp [World.cell?, h0] at hg
    · exact h
  have hg2 : ((w.alloc (.cells #[.pointer (some t)] 44)).alloc (.cells #[.pointer (some ⟨1, 44, none⟩), .pointer (some ⟨w.heap.size, 0, none⟩), .int .u64 150] 49)).cell? ⟨0, 0, none⟩ = some (.iface 60 (.agg #[.pointer (some ⟨1, 39, none⟩)])) := by
    rw [World.cell?_alloc_lt _ _ ⟨0, 0, none⟩ (by simp), World.cell?_alloc_lt _ _ ⟨0, 0, none⟩ hlt]; exact hg
  have htl : t.block < w.heap.size := by
    rcases Nat.lt_or_ge t.block w.heap.size with h | h
    · exact h
    · simp [World.cell?, Array.getElem?_eq_none h] at ht0
  have el := Tryd.elemV44 ⟨w.heap.size, 0, none⟩ t (((w.alloc (.cells #[.pointer (some t)] 44)).alloc (.cells #[.pointer (some ⟨1, 44, none⟩), .pointer (some ⟨w.heap.size, 0, none⟩), .int .u64 150] 49)).alloc (.cells #[.pointer (some ⟨1, 44, none⟩), .pointer (some ⟨w.heap.size, 0, none⟩), .int .u64 150] 49)) (by rw [World.cell?_alloc_lt _ _ ⟨w.heap.size, 0, none⟩ (by simp; omega)]; simp)
  have st := Tryd.set23 t ⟨w.heap.size + 1 + 1 + 1, 0, none⟩ e old ((((w.alloc (.cells #[.pointer (some t)] 44)).alloc (.cells #[.pointer (some ⟨1, 44, none⟩), .pointer (some ⟨w.heap.size, 0, none⟩), .int .u64 150] 49)).alloc (.cells #[.pointer (some ⟨1, 44, none⟩), .pointer (some ⟨w.heap.size, 0, none⟩), .int .u64 150] 49)).alloc (.cells #[.pointer (some e)] 23))
    (by rw [World.cell?_alloc_at _ _ _ _ (by simp)]; rfl)
    (by rw [World.cell?_alloc_lt _ _ t (by simp; omega), World.cell?_alloc_lt _ _ t (by simp; omega), World.cell?_alloc_lt _ _ t (by simp; omega), World.cell?_alloc_lt _ _ t htl]; exact ht0)
    (by rw [World.frozen?_alloc_old _ _ t (by simp; omega), World.frozen?_alloc_old _ _ t (by simp; omega), World.frozen?_alloc_old _ _ t (by simp; omega), World.frozen?_alloc_old _ _ t (Nat.ne_of_lt htl)]; exact hf0)
  go_enter Tryd.func12, Tryd.ntmps12
  go_wp2
  refine wp_loop_rounds 1 ?_
  rw [rounds_succ]
  go_wp2
  go_ret
  exact ⟨rfl, rfl⟩

set_option maxHeartbeats 4000000 in
theorem as_hit27 (e t : Addr) (old : Value) (w : World) (hg : w.cell? ⟨0, 0, none⟩ = some (.iface 60 (.agg #[.pointer (some ⟨1, 39, none⟩)]))) (ht0 : w.cell? t = some old) (hf0 : w.frozen? t = false) :
    Calls Tryd.prog 12 #[.iface 27 (.pointer (some e)), .iface 45 (.pointer (some t))] w fun ev w' => ev = .returned (.bool true) ∧ w' = ((((w.alloc (.cells #[.pointer (some t)] 45)).alloc (.cells #[.pointer (some ⟨1, 45, none⟩), .pointer (some ⟨w.heap.size, 0, none⟩), .int .u64 150] 49)).alloc (.cells #[.pointer (some ⟨1, 45, none⟩), .pointer (some ⟨w.heap.size, 0, none⟩), .int .u64 150] 49)).alloc (.cells #[.pointer (some e)] 27)).setCell t (.pointer (some e)) := by
  have h13 := @run_callFunc_extern Tryd.prog 13 _ (fun args => ReflectliteValue.unpack (args.getD 0 (.tuple #[]))) Tryd.func13 (by kernel_rfl) (by kernel_rfl) (by kernel_rfl) (by kernel_rfl)
  have h14 := @run_callFunc_extern Tryd.prog 14 _ (ReflectliteValue.methodAny (ReflectliteValue.valueError "reflectlite.Value.Type" 0) (fun t _ _ _ => ReflectliteType.toType t)) Tryd.func14 (by kernel_rfl) (by kernel_rfl) (by kernel_rfl) (by kernel_rfl)
  have h15 := @run_callFunc_extern Tryd.prog 15 _ (ReflectliteValue.method (ReflectliteValue.valueError "reflectlite.Value.IsNil" 0) ReflectliteValue.isNil) Tryd.func15 (by kernel_rfl) (by kernel_rfl) (by kernel_rfl) (by kernel_rfl)
  have h34 := @run_callFunc_extern Tryd.prog 34 _ (ReflectliteType.abiMethod fun t => do pure (.int .u8 (← Rtype.kind t))) Tryd.func34 (by kernel_rfl) (by kernel_rfl) (by kernel_rfl) (by kernel_rfl)
  have h47 := @run_callFunc_extern Tryd.prog 47 _ (ReflectliteType.method ReflectliteType.elem) Tryd.func47 (by kernel_rfl) (by kernel_rfl) (by kernel_rfl) (by kernel_rfl)
  have h48 := @run_callFunc_extern Tryd.prog 48 _ (ReflectliteType.relation "Implements" ReflectliteType.implements_) Tryd.func48 (by kernel_rfl) (by kernel_rfl) (by kernel_rfl) (by kernel_rfl)
  have h17 := @run_callFunc_extern Tryd.prog 17 _ ReflectliteType.typeOf Tryd.func17 (by kernel_rfl) (by kernel_rfl) (by kernel_rfl) (by kernel_rfl)
  have h45 := @run_callFunc_extern Tryd.prog 45 _ (ReflectliteType.relation "AssignableTo" ReflectliteType.assignableTo) Tryd.func45 (by kernel_rfl) (by kernel_rfl) (by kernel_rfl) (by kernel_rfl)
  have h18 := @run_callFunc_extern Tryd.prog 18 _ (ReflectliteValue.method (ReflectliteValue.valueError "reflectlite.Value.Elem" 0) ReflectliteValue.elem) Tryd.func18 (by kernel_rfl) (by kernel_rfl) (by kernel_rfl) (by kernel_rfl)
  have h19 := @run_callFunc_extern Tryd.prog 19 _ ReflectliteValue.set Tryd.func19 (by kernel_rfl) (by kernel_rfl) (by kernel_rfl) (by kernel_rfl)
  have vD := Tryd.valueOf27
  have tO := Tryd.typeOf27
  have mA := Tryd.methodAssignableTo
  have aD := Tryd.assignable27_27
  have f13 := Tryd.valueOf45
  have f14 := Tryd.type45
  have mK := Tryd.methodKind
  have mE := Tryd.methodElem
  have mI := Tryd.methodImplements
  have kT := Tryd.kind45
  have kE := Tryd.kind27
  have eT := Tryd.elem45
  have iE := Tryd.implements27
  have n15 := Tryd.isNil45 ⟨w.heap.size, 0, none⟩ t ((w.alloc (.cells #[.pointer (some t)] 45)).alloc (.cells #[.pointer (some ⟨1, 45, none⟩), .pointer (some ⟨w.heap.size, 0, none⟩), .int .u64 150] 49)) (by simp)
  have hlt : 0 < w.heap.size := by
    rcases Nat.eq_zero_or_pos w.heap.size with h0 | h
    · simp [World.cell?, h0] at hg
    · exact h
  have hg2 : ((w.alloc (.cells #[.pointer (some t)] 45)).alloc (.cells #[.pointer (some ⟨1, 45, none⟩), .pointer (some ⟨w.heap.size, 0, none⟩), .int .u64 150] 49)).cell? ⟨0, 0, none⟩ = some (.iface 60 (.agg #[.pointer (some ⟨1, 39, none⟩)])) := by
    rw [World.cell?_alloc_lt _ _ ⟨0, 0, none⟩ (by simp), World.cell?_alloc_lt _ _ ⟨0, 0, none⟩ hlt]; exact hg
  have htl : t.block < w.heap.size := by
    rcases Nat.lt_or_ge t.block w.heap.size with h | h
    · exact h
    · simp [World.cell?, Array.getElem?_eq_none h] at ht0
  have el := Tryd.elemV45 ⟨w.heap.size, 0, none⟩ t (((w.alloc (.cells #[.pointer (some t)] 45)).alloc (.cells #[.pointer (some ⟨1, 45, none⟩), .pointer (some ⟨w.heap.size, 0, none⟩), .int .u64 150] 49)).alloc (.cells #[.pointer (some ⟨1, 45, none⟩), .pointer (some ⟨w.heap.size, 0, none⟩), .int .u64 150] 49)) (by rw [World.cell?_alloc_lt _ _ ⟨w.heap.size, 0, none⟩ (by simp; omega)]; simp)
  have st := Tryd.set27 t ⟨w.heap.size + 1 + 1 + 1, 0, none⟩ e old ((((w.alloc (.cells #[.pointer (some t)] 45)).alloc (.cells #[.pointer (some ⟨1, 45, none⟩), .pointer (some ⟨w.heap.size, 0, none⟩), .int .u64 150] 49)).alloc (.cells #[.pointer (some ⟨1, 45, none⟩), .pointer (some ⟨w.heap.size, 0, none⟩), .int .u64 150] 49)).alloc (.cells #[.pointer (some e)] 27))
    (by rw [World.cell?_alloc_at _ _ _ _ (by simp)]; rfl)
    (by rw [World.cell?_alloc_lt _ _ t (by simp; omega), World.cell?_alloc_lt _ _ t (by simp; omega), World.cell?_alloc_lt _ _ t (by simp; omega), World.cell?_alloc_lt _ _ t htl]; exact ht0)
    (by rw [World.frozen?_alloc_old _ _ t (by simp; omega), World.frozen?_alloc_old _ _ t (by simp; omega), World.frozen?_alloc_old _ _ t (by simp; omega), World.frozen?_alloc_old _ _ t (Nat.ne_of_lt htl)]; exact hf0)
  go_enter Tryd.func12, Tryd.ntmps12
  go_wp2
  refine wp_loop_rounds 1 ?_
  rw [rounds_succ]
  go_wp2
  go_ret
  exact ⟨rfl, rfl⟩

set_option maxHeartbeats 4000000 in
theorem as_miss23_43 (e t : Addr) (w : World) (hg : w.cell? ⟨0, 0, none⟩ = some (.iface 60 (.agg #[.pointer (some ⟨1, 39, none⟩)]))) :
    Calls Tryd.prog 12 #[.iface 23 (.pointer (some e)), .iface 43 (.pointer (some t))] w fun ev w' => ev = .returned (.bool false) ∧ w' = ((w.alloc (.cells #[.pointer (some t)] 43)).alloc (.cells #[.pointer (some ⟨1, 43, none⟩), .pointer (some ⟨w.heap.size, 0, none⟩), .int .u64 150] 49)).alloc (.cells #[.pointer (some ⟨1, 43, none⟩), .pointer (some ⟨w.heap.size, 0, none⟩), .int .u64 150] 49) := by
  have h13 := @run_callFunc_extern Tryd.prog 13 _ (fun args => ReflectliteValue.unpack (args.getD 0 (.tuple #[]))) Tryd.func13 (by kernel_rfl) (by kernel_rfl) (by kernel_rfl) (by kernel_rfl)
  have h14 := @run_callFunc_extern Tryd.prog 14 _ (ReflectliteValue.methodAny (ReflectliteValue.valueError "reflectlite.Value.Type" 0) (fun t _ _ _ => ReflectliteType.toType t)) Tryd.func14 (by kernel_rfl) (by kernel_rfl) (by kernel_rfl) (by kernel_rfl)
  have h15 := @run_callFunc_extern Tryd.prog 15 _ (ReflectliteValue.method (ReflectliteValue.valueError "reflectlite.Value.IsNil" 0) ReflectliteValue.isNil) Tryd.func15 (by kernel_rfl) (by kernel_rfl) (by kernel_rfl) (by kernel_rfl)
  have h34 := @run_callFunc_extern Tryd.prog 34 _ (ReflectliteType.abiMethod fun t => do pure (.int .u8 (← Rtype.kind t))) Tryd.func34 (by kernel_rfl) (by kernel_rfl) (by kernel_rfl) (by kernel_rfl)
  have h47 := @run_callFunc_extern Tryd.prog 47 _ (ReflectliteType.method ReflectliteType.elem) Tryd.func47 (by kernel_rfl) (by kernel_rfl) (by kernel_rfl) (by kernel_rfl)
  have h48 := @run_callFunc_extern Tryd.prog 48 _ (ReflectliteType.relation "Implements" ReflectliteType.implements_) Tryd.func48 (by kernel_rfl) (by kernel_rfl) (by kernel_rfl) (by kernel_rfl)
  have h17 := @run_callFunc_extern Tryd.prog 17 _ ReflectliteType.typeOf Tryd.func17 (by kernel_rfl) (by kernel_rfl) (by kernel_rfl) (by kernel_rfl)
  have h45 := @run_callFunc_extern Tryd.prog 45 _ (ReflectliteType.relation "AssignableTo" ReflectliteType.assignableTo) Tryd.func45 (by kernel_rfl) (by kernel_rfl) (by kernel_rfl) (by kernel_rfl)
  have tO := Tryd.typeOf23
  have mA := Tryd.methodAssignableTo
  have aD := Tryd.assignable23_26
  have f13 := Tryd.valueOf43
  have f14 := Tryd.type43
  have mK := Tryd.methodKind
  have mE := Tryd.methodElem
  have mI := Tryd.methodImplements
  have kT := Tryd.kind43
  have kE := Tryd.kind26
  have eT := Tryd.elem43
  have iE := Tryd.implements26
  have n15 := Tryd.isNil43 ⟨w.heap.size, 0, none⟩ t ((w.alloc (.cells #[.pointer (some t)] 43)).alloc (.cells #[.pointer (some ⟨1, 43, none⟩), .pointer (some ⟨w.heap.size, 0, none⟩), .int .u64 150] 49)) (by simp)
  have hlt : 0 < w.heap.size := by
    rcases Nat.eq_zero_or_pos w.heap.size with h0 | h
    · simp [World.cell?, h0] at hg
    · exact h
  have hg2 : ((w.alloc (.cells #[.pointer (some t)] 43)).alloc (.cells #[.pointer (some ⟨1, 43, none⟩), .pointer (some ⟨w.heap.size, 0, none⟩), .int .u64 150] 49)).cell? ⟨0, 0, none⟩ = some (.iface 60 (.agg #[.pointer (some ⟨1, 39, none⟩)])) := by
    rw [World.cell?_alloc_lt _ _ ⟨0, 0, none⟩ (by simp), World.cell?_alloc_lt _ _ ⟨0, 0, none⟩ hlt]; exact hg
  have nA := Tryd.noAs23
  have nU := Tryd.noUnwrap23
  have nV := Tryd.noUnwraps23
  go_enter Tryd.func12, Tryd.ntmps12
  go_wp2
  refine wp_loop_rounds 1 ?_
  rw [rounds_succ]
  go_wp2
  go_ret
  exact ⟨rfl, rfl⟩

set_option maxHeartbeats 4000000 in
theorem as_miss27_43 (e t : Addr) (w : World) (hg : w.cell? ⟨0, 0, none⟩ = some (.iface 60 (.agg #[.pointer (some ⟨1, 39, none⟩)]))) :
    Calls Tryd.prog 12 #[.iface 27 (.pointer (some e)), .iface 43 (.pointer (some t))] w fun ev w' => ev = .returned (.bool false) ∧ w' = ((w.alloc (.cells #[.pointer (some t)] 43)).alloc (.cells #[.pointer (some ⟨1, 43, none⟩), .pointer (some ⟨w.heap.size, 0, none⟩), .int .u64 150] 49)).alloc (.cells #[.pointer (some ⟨1, 43, none⟩), .pointer (some ⟨w.heap.size, 0, none⟩), .int .u64 150] 49) := by
  have h13 := @run_callFunc_extern Tryd.prog 13 _ (fun args => ReflectliteValue.unpack (args.getD 0 (.tuple #[]))) Tryd.func13 (by kernel_rfl) (by kernel_rfl) (by kernel_rfl) (by kernel_rfl)
  have h14 := @run_callFunc_extern Tryd.prog 14 _ (ReflectliteValue.methodAny (ReflectliteValue.valueError "reflectlite.Value.Type" 0) (fun t _ _ _ => ReflectliteType.toType t)) Tryd.func14 (by kernel_rfl) (by kernel_rfl) (by kernel_rfl) (by kernel_rfl)
  have h15 := @run_callFunc_extern Tryd.prog 15 _ (ReflectliteValue.method (ReflectliteValue.valueError "reflectlite.Value.IsNil" 0) ReflectliteValue.isNil) Tryd.func15 (by kernel_rfl) (by kernel_rfl) (by kernel_rfl) (by kernel_rfl)
  have h34 := @run_callFunc_extern Tryd.prog 34 _ (ReflectliteType.abiMethod fun t => do pure (.int .u8 (← Rtype.kind t))) Tryd.func34 (by kernel_rfl) (by kernel_rfl) (by kernel_rfl) (by kernel_rfl)
  have h47 := @run_callFunc_extern Tryd.prog 47 _ (ReflectliteType.method ReflectliteType.elem) Tryd.func47 (by kernel_rfl) (by kernel_rfl) (by kernel_rfl) (by kernel_rfl)
  have h48 := @run_callFunc_extern Tryd.prog 48 _ (ReflectliteType.relation "Implements" ReflectliteType.implements_) Tryd.func48 (by kernel_rfl) (by kernel_rfl) (by kernel_rfl) (by kernel_rfl)
  have h17 := @run_callFunc_extern Tryd.prog 17 _ ReflectliteType.typeOf Tryd.func17 (by kernel_rfl) (by kernel_rfl) (by kernel_rfl) (by kernel_rfl)
  have h45 := @run_callFunc_extern Tryd.prog 45 _ (ReflectliteType.relation "AssignableTo" ReflectliteType.assignableTo) Tryd.func45 (by kernel_rfl) (by kernel_rfl) (by kernel_rfl) (by kernel_rfl)
  have tO := Tryd.typeOf27
  have mA := Tryd.methodAssignableTo
  have aD := Tryd.assignable27_26
  have f13 := Tryd.valueOf43
  have f14 := Tryd.type43
  have mK := Tryd.methodKind
  have mE := Tryd.methodElem
  have mI := Tryd.methodImplements
  have kT := Tryd.kind43
  have kE := Tryd.kind26
  have eT := Tryd.elem43
  have iE := Tryd.implements26
  have n15 := Tryd.isNil43 ⟨w.heap.size, 0, none⟩ t ((w.alloc (.cells #[.pointer (some t)] 43)).alloc (.cells #[.pointer (some ⟨1, 43, none⟩), .pointer (some ⟨w.heap.size, 0, none⟩), .int .u64 150] 49)) (by simp)
  have hlt : 0 < w.heap.size := by
    rcases Nat.eq_zero_or_pos w.heap.size with h0 | h
    · simp [World.cell?, h0] at hg
    · exact h
  have hg2 : ((w.alloc (.cells #[.pointer (some t)] 43)).alloc (.cells #[.pointer (some ⟨1, 43, none⟩), .pointer (some ⟨w.heap.size, 0, none⟩), .int .u64 150] 49)).cell? ⟨0, 0, none⟩ = some (.iface 60 (.agg #[.pointer (some ⟨1, 39, none⟩)])) := by
    rw [World.cell?_alloc_lt _ _ ⟨0, 0, none⟩ (by simp), World.cell?_alloc_lt _ _ ⟨0, 0, none⟩ hlt]; exact hg
  have nA := Tryd.noAs27
  have nU := Tryd.noUnwrap27
  have nV := Tryd.noUnwraps27
  go_enter Tryd.func12, Tryd.ntmps12
  go_wp2
  refine wp_loop_rounds 1 ?_
  rw [rounds_succ]
  go_wp2
  go_ret
  exact ⟨rfl, rfl⟩

set_option maxHeartbeats 4000000 in
theorem as_miss27_44 (e t : Addr) (w : World) (hg : w.cell? ⟨0, 0, none⟩ = some (.iface 60 (.agg #[.pointer (some ⟨1, 39, none⟩)]))) :
    Calls Tryd.prog 12 #[.iface 27 (.pointer (some e)), .iface 44 (.pointer (some t))] w fun ev w' => ev = .returned (.bool false) ∧ w' = ((w.alloc (.cells #[.pointer (some t)] 44)).alloc (.cells #[.pointer (some ⟨1, 44, none⟩), .pointer (some ⟨w.heap.size, 0, none⟩), .int .u64 150] 49)).alloc (.cells #[.pointer (some ⟨1, 44, none⟩), .pointer (some ⟨w.heap.size, 0, none⟩), .int .u64 150] 49) := by
  have h13 := @run_callFunc_extern Tryd.prog 13 _ (fun args => ReflectliteValue.unpack (args.getD 0 (.tuple #[]))) Tryd.func13 (by kernel_rfl) (by kernel_rfl) (by kernel_rfl) (by kernel_rfl)
  have h14 := @run_callFunc_extern Tryd.prog 14 _ (ReflectliteValue.methodAny (ReflectliteValue.valueError "reflectlite.Value.Type" 0) (fun t _ _ _ => ReflectliteType.toType t)) Tryd.func14 (by kernel_rfl) (by kernel_rfl) (by kernel_rfl) (by kernel_rfl)
  have h15 := @run_callFunc_extern Tryd.prog 15 _ (ReflectliteValue.method (ReflectliteValue.valueError "reflectlite.Value.IsNil" 0) ReflectliteValue.isNil) Tryd.func15 (by kernel_rfl) (by kernel_rfl) (by kernel_rfl) (by kernel_rfl)
  have h34 := @run_callFunc_extern Tryd.prog 34 _ (ReflectliteType.abiMethod fun t => do pure (.int .u8 (← Rtype.kind t))) Tryd.func34 (by kernel_rfl) (by kernel_rfl) (by kernel_rfl) (by kernel_rfl)
  have h47 := @run_callFunc_extern Tryd.prog 47 _ (ReflectliteType.method ReflectliteType.elem) Tryd.func47 (by kernel_rfl) (by kernel_rfl) (by kernel_rfl) (by kernel_rfl)
  have h48 := @run_callFunc_extern Tryd.prog 48 _ (ReflectliteType.relation "Implements" ReflectliteType.implements_) Tryd.func48 (by kernel_rfl) (by kernel_rfl) (by kernel_rfl) (by kernel_rfl)
  have h17 := @run_callFunc_extern Tryd.prog 17 _ ReflectliteType.typeOf Tryd.func17 (by kernel_rfl) (by kernel_rfl) (by kernel_rfl) (by kernel_rfl)
  have h45 := @run_callFunc_extern Tryd.prog 45 _ (ReflectliteType.relation "AssignableTo" ReflectliteType.assignableTo) Tryd.func45 (by kernel_rfl) (by kernel_rfl) (by kernel_rfl) (by kernel_rfl)
  have tO := Tryd.typeOf27
  have mA := Tryd.methodAssignableTo
  have aD := Tryd.assignable27_23
  have f13 := Tryd.valueOf44
  have f14 := Tryd.type44
  have mK := Tryd.methodKind
  have mE := Tryd.methodElem
  have mI := Tryd.methodImplements
  have kT := Tryd.kind44
  have kE := Tryd.kind23
  have eT := Tryd.elem44
  have iE := Tryd.implements23
  have n15 := Tryd.isNil44 ⟨w.heap.size, 0, none⟩ t ((w.alloc (.cells #[.pointer (some t)] 44)).alloc (.cells #[.pointer (some ⟨1, 44, none⟩), .pointer (some ⟨w.heap.size, 0, none⟩), .int .u64 150] 49)) (by simp)
  have hlt : 0 < w.heap.size := by
    rcases Nat.eq_zero_or_pos w.heap.size with h0 | h
    · simp [World.cell?, h0] at hg
    · exact h
  have hg2 : ((w.alloc (.cells #[.pointer (some t)] 44)).alloc (.cells #[.pointer (some ⟨1, 44, none⟩), .pointer (some ⟨w.heap.size, 0, none⟩), .int .u64 150] 49)).cell? ⟨0, 0, none⟩ = some (.iface 60 (.agg #[.pointer (some ⟨1, 39, none⟩)])) := by
    rw [World.cell?_alloc_lt _ _ ⟨0, 0, none⟩ (by simp), World.cell?_alloc_lt _ _ ⟨0, 0, none⟩ hlt]; exact hg
  have nA := Tryd.noAs27
  have nU := Tryd.noUnwrap27
  have nV := Tryd.noUnwraps27
  go_enter Tryd.func12, Tryd.ntmps12
  go_wp2
  refine wp_loop_rounds 1 ?_
  rw [rounds_succ]
  go_wp2
  go_ret
  exact ⟨rfl, rfl⟩

end Go.Proofs.Qxb6605616aDoor
