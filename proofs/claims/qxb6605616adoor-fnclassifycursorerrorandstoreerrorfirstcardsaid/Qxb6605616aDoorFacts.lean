/-
  errors.As AT THIS PROGRAM's TYPES: CLOSED FACTS on the model's entries for internal/reflectlite (after the guide text ToyasAs.lean, turned to this dump's numbers), and the small laws on the entries that read or write memory. Types: 23 the pointer to ArgumentError, 26 to StoreError, 27 to CursorError; 44, 43, 45 the pointers to those; 39 error; 60 reflectlite's rtype; 49 reflectlite's Value.
-/
import Derived.Test.Qxb6605616aDoorProg
import Derived.WalkKit
import Derived.LaidEql
import Derived.Stop.Asserts
import Derived.RowKitTokens
namespace Go.Proofs.Qxb6605616aDoor
open Go.RowKit Go.Extern.Stop Go.Stop Go.Extern

theorem rlm (z : Sem Value) (f : TypeId → Addr → Nat → Nat → Sem Value) (v : Value) :
    ReflectliteValue.method z f #[v] = (do match ← ReflectliteValue.parts v with | none => z | some (t, a, fl) => f t a fl (fl % 32)) := rfl
theorem rls (v x : Value) : ∃ s1 s2 s3 s4 s5 : String, ReflectliteValue.set #[v, x] = (do
    let (some (dst, a, fl), some (src, b, _)) := (← ReflectliteValue.parts v, ← ReflectliteValue.parts x)
      | unsupported (.noEntry s1)
    if fl / ReflectliteValue.flagAddr % 2 == 0 then unsupported (.noEntry s2)
    let val ← loadVar src b
    if ← Rtype.directlyAssignable dst src then storeVar dst a val
    else if ← Rtype.implements dst src then
      if (← Rtype.kind src) == 20 then
        match val with
        | .nilIface => unsupported (.noEntry s3)
        | _ => storeVar dst a val
      else storeVar dst a (.iface src val)
    else panicString (s4 ++ (← Rtype.spelt src) ++ s5 ++ (← Rtype.spelt dst))
    pure (.tuple #[])) := ⟨_, _, _, _, _, rfl⟩
theorem Tryd.methodKind (h : Value) (w : World) : (Go.method 203 60 (.agg #[h]) "Kind").run Tryd.prog w = .ok (34, h) w := by kernel_rfl
theorem Tryd.methodElem (h : Value) (w : World) : (Go.method 203 60 (.agg #[h]) "Elem").run Tryd.prog w = .ok (47, .agg #[h]) w := by kernel_rfl
theorem Tryd.methodImplements (h : Value) (w : World) : (Go.method 203 60 (.agg #[h]) "Implements").run Tryd.prog w = .ok (48, .agg #[h]) w := by kernel_rfl
theorem Tryd.methodAssignableTo (h : Value) (w : World) : (Go.method 203 60 (.agg #[h]) "AssignableTo").run Tryd.prog w = .ok (45, .agg #[h]) w := by kernel_rfl

/-! ### the target's type 43, its element type 26 -/
theorem Tryd.valueOf43 (t : Addr) (w : World) : (ReflectliteValue.unpack (.iface 43 (.pointer (some t)))).run Tryd.prog w
    = .ok (.agg #[.pointer (some ⟨1, 43, none⟩), .pointer (some ⟨w.heap.size, 0, none⟩), .int .u64 150]) (w.alloc (.cells #[.pointer (some t)] 43)) := by kernel_rfl
theorem Tryd.type43 (a : Addr) (w : World) : (ReflectliteValue.methodAny (ReflectliteValue.valueError "reflectlite.Value.Type" 0) (fun t _ _ _ => ReflectliteType.toType t) #[.agg #[.pointer (some ⟨1, 43, none⟩), .pointer (some a), .int .u64 150]]).run Tryd.prog w
    = .ok (.iface 60 (.agg #[.pointer (some ⟨1, 43, none⟩)])) w := by kernel_rfl
theorem Tryd.kind43 (w : World) : ((ReflectliteType.abiMethod fun t => Functor.map (fun a : Nat => Value.int IntKind.u8 (a : Int)) (Rtype.kind t)) #[.pointer (some ⟨1, 43, none⟩)]).run Tryd.prog w = .ok (.int .u8 22) w := by kernel_rfl
theorem Tryd.kind26 (w : World) : ((ReflectliteType.abiMethod fun t => Functor.map (fun a : Nat => Value.int IntKind.u8 (a : Int)) (Rtype.kind t)) #[.pointer (some ⟨1, 26, none⟩)]).run Tryd.prog w = .ok (.int .u8 22) w := by kernel_rfl
theorem Tryd.parts43 (a : Addr) (w : World) : (ReflectliteValue.parts (.agg #[.pointer (some ⟨1, 43, none⟩), .pointer (some a), .int .u64 150])).run Tryd.prog w = .ok (some (43, a, 150)) w := by kernel_rfl
theorem Tryd.isNil43 (a p : Addr) (W : World) (ha : W.cell? a = some (.pointer (some p))) :
    (ReflectliteValue.method (ReflectliteValue.valueError "reflectlite.Value.IsNil" 0) ReflectliteValue.isNil #[.agg #[.pointer (some ⟨1, 43, none⟩), .pointer (some a), .int .u64 150]]).run Tryd.prog W = .ok (.bool false) W := by
  rw [rlm]
  simp only [Sem.run_bind, Tryd.parts43, Result.andThen]
  simp [ReflectliteValue.isNil, loadVar, isAgg, underlying, Tryd.underlying43, ha, Result.andThen]
theorem Tryd.elem43 (w : World) : (ReflectliteType.method ReflectliteType.elem #[.agg #[.pointer (some ⟨1, 43, none⟩)]]).run Tryd.prog w = .ok (.iface 60 (.agg #[.pointer (some ⟨1, 26, none⟩)])) w := by kernel_rfl
theorem Tryd.implements26 (w : World) : (ReflectliteType.relation "Implements" ReflectliteType.implements_ #[.agg #[.pointer (some ⟨1, 26, none⟩)], .iface 60 (.agg #[.pointer (some ⟨1, 39, none⟩)])]).run Tryd.prog w = .ok (.bool true) w := by kernel_rfl
theorem Tryd.typeOf26 (v : Value) (w : World) : (ReflectliteType.typeOf #[.iface 26 v]).run Tryd.prog w = .ok (.iface 60 (.agg #[.pointer (some ⟨1, 26, none⟩)])) w := by kernel_rfl
theorem Tryd.valueOf26 (e : Addr) (w : World) : (ReflectliteValue.unpack (.iface 26 (.pointer (some e)))).run Tryd.prog w
    = .ok (.agg #[.pointer (some ⟨1, 26, none⟩), .pointer (some ⟨w.heap.size, 0, none⟩), .int .u64 150]) (w.alloc (.cells #[.pointer (some e)] 26)) := by kernel_rfl
theorem Tryd.elemOf43 (w : World) : (Rtype.elem? 43).run Tryd.prog w = .ok (some 26) w := by kernel_rfl
theorem Tryd.mk26 (p : Addr) (w : World) : (ReflectliteValue.mk 26 p ReflectliteValue.flagAddr).run Tryd.prog w = .ok (.agg #[.pointer (some ⟨1, 26, none⟩), .pointer (some p), .int .u64 406]) w := by kernel_rfl
theorem Tryd.elemV43 (a p : Addr) (W : World) (ha : W.cell? a = some (.pointer (some p))) :
    (ReflectliteValue.method (ReflectliteValue.valueError "reflectlite.Value.Elem" 0) ReflectliteValue.elem #[.agg #[.pointer (some ⟨1, 43, none⟩), .pointer (some a), .int .u64 150]]).run Tryd.prog W
      = .ok (.agg #[.pointer (some ⟨1, 26, none⟩), .pointer (some p), .int .u64 406]) W := by
  rw [rlm]
  simp only [Sem.run_bind, Tryd.parts43, Result.andThen]
  simp [ReflectliteValue.elem, loadVar, isAgg, underlying, Tryd.underlying43, ha, Result.andThen, Tryd.elemOf43, Tryd.mk26]
theorem Tryd.parts26a (a : Addr) (w : World) : (ReflectliteValue.parts (.agg #[.pointer (some ⟨1, 26, none⟩), .pointer (some a), .int .u64 406])).run Tryd.prog w = .ok (some (26, a, 406)) w := by kernel_rfl
theorem Tryd.parts26 (a : Addr) (w : World) : (ReflectliteValue.parts (.agg #[.pointer (some ⟨1, 26, none⟩), .pointer (some a), .int .u64 150])).run Tryd.prog w = .ok (some (26, a, 150)) w := by kernel_rfl
theorem Tryd.direct26 (w : World) : (Rtype.directlyAssignable 26 26).run Tryd.prog w = .ok true w := by kernel_rfl
theorem Tryd.set26 (ta b e : Addr) (old : Value) (W : World) (hb : W.cell? b = some (.pointer (some e))) (ht : W.cell? ta = some old) (hf : W.frozen? ta = false) :
    (ReflectliteValue.set #[.agg #[.pointer (some ⟨1, 26, none⟩), .pointer (some ta), .int .u64 406], .agg #[.pointer (some ⟨1, 26, none⟩), .pointer (some b), .int .u64 150]]).run Tryd.prog W
      = .ok (.tuple #[]) (W.setCell ta (.pointer (some e))) := by
  obtain ⟨s1, s2, s3, s4, s5, hs⟩ := rls (.agg #[.pointer (some ⟨1, 26, none⟩), .pointer (some ta), .int .u64 406]) (.agg #[.pointer (some ⟨1, 26, none⟩), .pointer (some b), .int .u64 150])
  rw [hs]
  simp only [Sem.run_bind, Tryd.parts26a, Tryd.parts26, Result.andThen]
  simp [ReflectliteValue.flagAddr, loadVar, isAgg, underlying, Tryd.underlying26, hb, Result.andThen, Tryd.direct26, storeVar, Value.cells, storeCells, Addr.add]
  rw [run_store Tryd.prog W ta _ _ (by rfl)]
  simp [ht, hf]

/-! ### the target's type 44, its element type 23 -/
theorem Tryd.valueOf44 (t : Addr) (w : World) : (ReflectliteValue.unpack (.iface 44 (.pointer (some t)))).run Tryd.prog w
    = .ok (.agg #[.pointer (some ⟨1, 44, none⟩), .pointer (some ⟨w.heap.size, 0, none⟩), .int .u64 150]) (w.alloc (.cells #[.pointer (some t)] 44)) := by kernel_rfl
theorem Tryd.type44 (a : Addr) (w : World) : (ReflectliteValue.methodAny (ReflectliteValue.valueError "reflectlite.Value.Type" 0) (fun t _ _ _ => ReflectliteType.toType t) #[.agg #[.pointer (some ⟨1, 44, none⟩), .pointer (some a), .int .u64 150]]).run Tryd.prog w
    = .ok (.iface 60 (.agg #[.pointer (some ⟨1, 44, none⟩)])) w := by kernel_rfl
theorem Tryd.kind44 (w : World) : ((ReflectliteType.abiMethod fun t => Functor.map (fun a : Nat => Value.int IntKind.u8 (a : Int)) (Rtype.kind t)) #[.pointer (some ⟨1, 44, none⟩)]).run Tryd.prog w = .ok (.int .u8 22) w := by kernel_rfl
theorem Tryd.kind23 (w : World) : ((ReflectliteType.abiMethod fun t => Functor.map (fun a : Nat => Value.int IntKind.u8 (a : Int)) (Rtype.kind t)) #[.pointer (some ⟨1, 23, none⟩)]).run Tryd.prog w = .ok (.int .u8 22) w := by kernel_rfl
theorem Tryd.parts44 (a : Addr) (w : World) : (ReflectliteValue.parts (.agg #[.pointer (some ⟨1, 44, none⟩), .pointer (some a), .int .u64 150])).run Tryd.prog w = .ok (some (44, a, 150)) w := by kernel_rfl
theorem Tryd.isNil44 (a p : Addr) (W : World) (ha : W.cell? a = some (.pointer (some p))) :
    (ReflectliteValue.method (ReflectliteValue.valueError "reflectlite.Value.IsNil" 0) ReflectliteValue.isNil #[.agg #[.pointer (some ⟨1, 44, none⟩), .pointer (some a), .int .u64 150]]).run Tryd.prog W = .ok (.bool false) W := by
  rw [rlm]
  simp only [Sem.run_bind, Tryd.parts44, Result.andThen]
  simp [ReflectliteValue.isNil, loadVar, isAgg, underlying, Tryd.underlying44, ha, Result.andThen]
theorem Tryd.elem44 (w : World) : (ReflectliteType.method ReflectliteType.elem #[.agg #[.pointer (some ⟨1, 44, none⟩)]]).run Tryd.prog w = .ok (.iface 60 (.agg #[.pointer (some ⟨1, 23, none⟩)])) w := by kernel_rfl
theorem Tryd.implements23 (w : World) : (ReflectliteType.relation "Implements" ReflectliteType.implements_ #[.agg #[.pointer (some ⟨1, 23, none⟩)], .iface 60 (.agg #[.pointer (some ⟨1, 39, none⟩)])]).run Tryd.prog w = .ok (.bool true) w := by kernel_rfl
theorem Tryd.typeOf23 (v : Value) (w : World) : (ReflectliteType.typeOf #[.iface 23 v]).run Tryd.prog w = .ok (.iface 60 (.agg #[.pointer (some ⟨1, 23, none⟩)])) w := by kernel_rfl
theorem Tryd.valueOf23 (e : Addr) (w : World) : (ReflectliteValue.unpack (.iface 23 (.pointer (some e)))).run Tryd.prog w
    = .ok (.agg #[.pointer (some ⟨1, 23, none⟩), .pointer (some ⟨w.heap.size, 0, none⟩), .int .u64 150]) (w.alloc (.cells #[.pointer (some e)] 23)) := by kernel_rfl
theorem Tryd.elemOf44 (w : World) : (Rtype.elem? 44).run Tryd.prog w = .ok (some 23) w := by kernel_rfl
theorem Tryd.mk23 (p : Addr) (w : World) : (ReflectliteValue.mk 23 p ReflectliteValue.flagAddr).run Tryd.prog w = .ok (.agg #[.pointer (some ⟨1, 23, none⟩), .pointer (some p), .int .u64 406]) w := by kernel_rfl
theorem Tryd.elemV44 (a p : Addr) (W : World) (ha : W.cell? a = some (.pointer (some p))) :
    (ReflectliteValue.method (ReflectliteValue.valueError "reflectlite.Value.Elem" 0) ReflectliteValue.elem #[.agg #[.pointer (some ⟨1, 44, none⟩), .pointer (some a), .int .u64 150]]).run Tryd.prog W
      = .ok (.agg #[.pointer (some ⟨1, 23, none⟩), .pointer (some p), .int .u64 406]) W := by
  rw [rlm]
  simp only [Sem.run_bind, Tryd.parts44, Result.andThen]
  simp [ReflectliteValue.elem, loadVar, isAgg, underlying, Tryd.underlying44, ha, Result.andThen, Tryd.elemOf44, Tryd.mk23]
theorem Tryd.parts23a (a : Addr) (w : World) : (ReflectliteValue.parts (.agg #[.pointer (some ⟨1, 23, none⟩), .pointer (some a), .int .u64 406])).run Tryd.prog w = .ok (some (23, a, 406)) w := by kernel_rfl
theorem Tryd.parts23 (a : Addr) (w : World) : (ReflectliteValue.parts (.agg #[.pointer (some ⟨1, 23, none⟩), .pointer (some a), .int .u64 150])).run Tryd.prog w = .ok (some (23, a, 150)) w := by kernel_rfl
theorem Tryd.direct23 (w : World) : (Rtype.directlyAssignable 23 23).run Tryd.prog w = .ok true w := by kernel_rfl
theorem Tryd.set23 (ta b e : Addr) (old : Value) (W : World) (hb : W.cell? b = some (.pointer (some e))) (ht : W.cell? ta = some old) (hf : W.frozen? ta = false) :
    (ReflectliteValue.set #[.agg #[.pointer (some ⟨1, 23, none⟩), .pointer (some ta), .int .u64 406], .agg #[.pointer (some ⟨1, 23, none⟩), .pointer (some b), .int .u64 150]]).run Tryd.prog W
      = .ok (.tuple #[]) (W.setCell ta (.pointer (some e))) := by
  obtain ⟨s1, s2, s3, s4, s5, hs⟩ := rls (.agg #[.pointer (some ⟨1, 23, none⟩), .pointer (some ta), .int .u64 406]) (.agg #[.pointer (some ⟨1, 23, none⟩), .pointer (some b), .int .u64 150])
  rw [hs]
  simp only [Sem.run_bind, Tryd.parts23a, Tryd.parts23, Result.andThen]
  simp [ReflectliteValue.flagAddr, loadVar, isAgg, underlying, Tryd.underlying23, hb, Result.andThen, Tryd.direct23, storeVar, Value.cells, storeCells, Addr.add]
  rw [run_store Tryd.prog W ta _ _ (by rfl)]
  simp [ht, hf]

/-! ### the target's type 45, its element type 27 -/
theorem Tryd.valueOf45 (t : Addr) (w : World) : (ReflectliteValue.unpack (.iface 45 (.pointer (some t)))).run Tryd.prog w
    = .ok (.agg #[.pointer (some ⟨1, 45, none⟩), .pointer (some ⟨w.heap.size, 0, none⟩), .int .u64 150]) (w.alloc (.cells #[.pointer (some t)] 45)) := by kernel_rfl
theorem Tryd.type45 (a : Addr) (w : World) : (ReflectliteValue.methodAny (ReflectliteValue.valueError "reflectlite.Value.Type" 0) (fun t _ _ _ => ReflectliteType.toType t) #[.agg #[.pointer (some ⟨1, 45, none⟩), .pointer (some a), .int .u64 150]]).run Tryd.prog w
    = .ok (.iface 60 (.agg #[.pointer (some ⟨1, 45, none⟩)])) w := by kernel_rfl
theorem Tryd.kind45 (w : World) : ((ReflectliteType.abiMethod fun t => Functor.map (fun a : Nat => Value.int IntKind.u8 (a : Int)) (Rtype.kind t)) #[.pointer (some ⟨1, 45, none⟩)]).run Tryd.prog w = .ok (.int .u8 22) w := by kernel_rfl
theorem Tryd.kind27 (w : World) : ((ReflectliteType.abiMethod fun t => Functor.map (fun a : Nat => Value.int IntKind.u8 (a : Int)) (Rtype.kind t)) #[.pointer (some ⟨1, 27, none⟩)]).run Tryd.prog w = .ok (.int .u8 22) w := by kernel_rfl
theorem Tryd.parts45 (a : Addr) (w : World) : (ReflectliteValue.parts (.agg #[.pointer (some ⟨1, 45, none⟩), .pointer (some a), .int .u64 150])).run Tryd.prog w = .ok (some (45, a, 150)) w := by kernel_rfl
theorem Tryd.isNil45 (a p : Addr) (W : World) (ha : W.cell? a = some (.pointer (some p))) :
    (ReflectliteValue.method (ReflectliteValue.valueError "reflectlite.Value.IsNil" 0) ReflectliteValue.isNil #[.agg #[.pointer (some ⟨1, 45, none⟩), .pointer (some a), .int .u64 150]]).run Tryd.prog W = .ok (.bool false) W := by
  rw [rlm]
  simp only [Sem.run_bind, Tryd.parts45, Result.andThen]
  simp [ReflectliteValue.isNil, loadVar, isAgg, underlying, Tryd.underlying45, ha, Result.andThen]
theorem Tryd.elem45 (w : World) : (ReflectliteType.method ReflectliteType.elem #[.agg #[.pointer (some ⟨1, 45, none⟩)]]).run Tryd.prog w = .ok (.iface 60 (.agg #[.pointer (some ⟨1, 27, none⟩)])) w := by kernel_rfl
theorem Tryd.implements27 (w : World) : (ReflectliteType.relation "Implements" ReflectliteType.implements_ #[.agg #[.pointer (some ⟨1, 27, none⟩)], .iface 60 (.agg #[.pointer (some ⟨1, 39, none⟩)])]).run Tryd.prog w = .ok (.bool true) w := by kernel_rfl
theorem Tryd.typeOf27 (v : Value) (w : World) : (ReflectliteType.typeOf #[.iface 27 v]).run Tryd.prog w = .ok (.iface 60 (.agg #[.pointer (some ⟨1, 27, none⟩)])) w := by kernel_rfl
theorem Tryd.valueOf27 (e : Addr) (w : World) : (ReflectliteValue.unpack (.iface 27 (.pointer (some e)))).run Tryd.prog w
    = .ok (.agg #[.pointer (some ⟨1, 27, none⟩), .pointer (some ⟨w.heap.size, 0, none⟩), .int .u64 150]) (w.alloc (.cells #[.pointer (some e)] 27)) := by kernel_rfl
theorem Tryd.elemOf45 (w : World) : (Rtype.elem? 45).run Tryd.prog w = .ok (some 27) w := by kernel_rfl
theorem Tryd.mk27 (p : Addr) (w : World) : (ReflectliteValue.mk 27 p ReflectliteValue.flagAddr).run Tryd.prog w = .ok (.agg #[.pointer (some ⟨1, 27, none⟩), .pointer (some p), .int .u64 406]) w := by kernel_rfl
theorem Tryd.elemV45 (a p : Addr) (W : World) (ha : W.cell? a = some (.pointer (some p))) :
    (ReflectliteValue.method (ReflectliteValue.valueError "reflectlite.Value.Elem" 0) ReflectliteValue.elem #[.agg #[.pointer (some ⟨1, 45, none⟩), .pointer (some a), .int .u64 150]]).run Tryd.prog W
      = .ok (.agg #[.pointer (some ⟨1, 27, none⟩), .pointer (some p), .int .u64 406]) W := by
  rw [rlm]
  simp only [Sem.run_bind, Tryd.parts45, Result.andThen]
  simp [ReflectliteValue.elem, loadVar, isAgg, underlying, Tryd.underlying45, ha, Result.andThen, Tryd.elemOf45, Tryd.mk27]
theorem Tryd.parts27a (a : Addr) (w : World) : (ReflectliteValue.parts (.agg #[.pointer (some ⟨1, 27, none⟩), .pointer (some a), .int .u64 406])).run Tryd.prog w = .ok (some (27, a, 406)) w := by kernel_rfl
theorem Tryd.parts27 (a : Addr) (w : World) : (ReflectliteValue.parts (.agg #[.pointer (some ⟨1, 27, none⟩), .pointer (some a), .int .u64 150])).run Tryd.prog w = .ok (some (27, a, 150)) w := by kernel_rfl
theorem Tryd.direct27 (w : World) : (Rtype.directlyAssignable 27 27).run Tryd.prog w = .ok true w := by kernel_rfl
theorem Tryd.set27 (ta b e : Addr) (old : Value) (W : World) (hb : W.cell? b = some (.pointer (some e))) (ht : W.cell? ta = some old) (hf : W.frozen? ta = false) :
    (ReflectliteValue.set #[.agg #[.pointer (some ⟨1, 27, none⟩), .pointer (some ta), .int .u64 406], .agg #[.pointer (some ⟨1, 27, none⟩), .pointer (some b), .int .u64 150]]).run Tryd.prog W
      = .ok (.tuple #[]) (W.setCell ta (.pointer (some e))) := by
  obtain ⟨s1, s2, s3, s4, s5, hs⟩ := rls (.agg #[.pointer (some ⟨1, 27, none⟩), .pointer (some ta), .int .u64 406]) (.agg #[.pointer (some ⟨1, 27, none⟩), .pointer (some b), .int .u64 150])
  rw [hs]
  simp only [Sem.run_bind, Tryd.parts27a, Tryd.parts27, Result.andThen]
  simp [ReflectliteValue.flagAddr, loadVar, isAgg, underlying, Tryd.underlying27, hb, Result.andThen, Tryd.direct27, storeVar, Value.cells, storeCells, Addr.add]
  rw [run_store Tryd.prog W ta _ _ (by rfl)]
  simp [ht, hf]

/-! ### which dynamic type is assignable to which element type -/
theorem Tryd.assignable23_23 (w : World) : (ReflectliteType.relation "AssignableTo" ReflectliteType.assignableTo #[.agg #[.pointer (some ⟨1, 23, none⟩)], .iface 60 (.agg #[.pointer (some ⟨1, 23, none⟩)])]).run Tryd.prog w = .ok (.bool true) w := by kernel_rfl
theorem Tryd.assignable26_26 (w : World) : (ReflectliteType.relation "AssignableTo" ReflectliteType.assignableTo #[.agg #[.pointer (some ⟨1, 26, none⟩)], .iface 60 (.agg #[.pointer (some ⟨1, 26, none⟩)])]).run Tryd.prog w = .ok (.bool true) w := by kernel_rfl
theorem Tryd.assignable27_27 (w : World) : (ReflectliteType.relation "AssignableTo" ReflectliteType.assignableTo #[.agg #[.pointer (some ⟨1, 27, none⟩)], .iface 60 (.agg #[.pointer (some ⟨1, 27, none⟩)])]).run Tryd.prog w = .ok (.bool true) w := by kernel_rfl
theorem Tryd.assignable23_26 (w : World) : (ReflectliteType.relation "AssignableTo" ReflectliteType.assignableTo #[.agg #[.pointer (some ⟨1, 23, none⟩)], .iface 60 (.agg #[.pointer (some ⟨1, 26, none⟩)])]).run Tryd.prog w = .ok (.bool false) w := by kernel_rfl
theorem Tryd.assignable27_26 (w : World) : (ReflectliteType.relation "AssignableTo" ReflectliteType.assignableTo #[.agg #[.pointer (some ⟨1, 27, none⟩)], .iface 60 (.agg #[.pointer (some ⟨1, 26, none⟩)])]).run Tryd.prog w = .ok (.bool false) w := by kernel_rfl
theorem Tryd.assignable27_23 (w : World) : (ReflectliteType.relation "AssignableTo" ReflectliteType.assignableTo #[.agg #[.pointer (some ⟨1, 27, none⟩)], .iface 60 (.agg #[.pointer (some ⟨1, 23, none⟩)])]).run Tryd.prog w = .ok (.bool false) w := by kernel_rfl

/-! ### the errors that are missed have no methods As, Unwrap -/
theorem Tryd.noAs23 (v : Value) (xT : TypeId) (w : World) : (Instr.typeAssert (.iface 23 v) xT 65 true).run Tryd.prog w = .ok (.tuple #[.nilIface, .bool false]) w := run_typeAssert_lacksB Tryd.underlying65 (by kernel_rfl) (by kernel_rfl) v xT w
theorem Tryd.noUnwrap23 (v : Value) (xT : TypeId) (w : World) : (Instr.typeAssert (.iface 23 v) xT 68 true).run Tryd.prog w = .ok (.tuple #[.nilIface, .bool false]) w := run_typeAssert_lacksB Tryd.underlying68 (by kernel_rfl) (by kernel_rfl) v xT w
theorem Tryd.noUnwraps23 (v : Value) (xT : TypeId) (w : World) : (Instr.typeAssert (.iface 23 v) xT 70 true).run Tryd.prog w = .ok (.tuple #[.nilIface, .bool false]) w := run_typeAssert_lacksB Tryd.underlying70 (by kernel_rfl) (by kernel_rfl) v xT w
theorem Tryd.noAs27 (v : Value) (xT : TypeId) (w : World) : (Instr.typeAssert (.iface 27 v) xT 65 true).run Tryd.prog w = .ok (.tuple #[.nilIface, .bool false]) w := run_typeAssert_lacksB Tryd.underlying65 (by kernel_rfl) (by kernel_rfl) v xT w
theorem Tryd.noUnwrap27 (v : Value) (xT : TypeId) (w : World) : (Instr.typeAssert (.iface 27 v) xT 68 true).run Tryd.prog w = .ok (.tuple #[.nilIface, .bool false]) w := run_typeAssert_lacksB Tryd.underlying68 (by kernel_rfl) (by kernel_rfl) v xT w
theorem Tryd.noUnwraps27 (v : Value) (xT : TypeId) (w : World) : (Instr.typeAssert (.iface 27 v) xT 70 true).run Tryd.prog w = .ok (.tuple #[.nilIface, .bool false]) w := run_typeAssert_lacksB Tryd.underlying70 (by kernel_rfl) (by kernel_rfl) v xT w
end Go.Proofs.Qxb6605616aDoor
