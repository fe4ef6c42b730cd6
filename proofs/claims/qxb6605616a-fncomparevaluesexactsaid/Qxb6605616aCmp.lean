/-
  compareValues BY ITS CONTRACTS: each pair of kinds; the shims over it; the law's own models of the order of ints and floats.
-/
import Derived.Test.Qxb6605616aProg
import Derived.Test.Qxb6605616aFloats
import Derived.WalkKit
import Derived.WalkLawsBesides
namespace Go.Proofs.Qxb6605616a
open Go.RowKit

/-- -1, 0 or 1, as the two numbers stand -/
def sg (a b : Int) : Int := if a < b then -1 else if b < a then 1 else 0
/-- the order of two float64 words: every NaN equal, after all numbers -/
def fm (f g : Nat) : Int := if Floats.nan f then (if Floats.nan g then 0 else 1) else if Floats.nan g then -1 else sg (Floats.ev f) (Floats.ev g)
/-- the order of two strings, byte by byte -/
def sm (s t : ByteArray) : Int := if Op.bytesLess s.toList t.toList then -1 else if s.toList == t.toList then 0 else 1

/-! ### the float tests, as the walk writes them -/
theorem nanTest {f : Nat} (h : Floats.nan f = true) : (FloatKind.f64.format.order f f != some .eq) = true := by
  rw [show FloatKind.f64.format.order f f = none from Floats.order_nan (.inl h)]; rfl
theorem numTest {f : Nat} (h : Floats.nan f = false) : (FloatKind.f64.format.order f f != some .eq) = false := by
  rw [show FloatKind.f64.format.order f f = _ from Floats.order_ev h h, Floats.cmp_int, if_neg (by omega), if_pos rfl]; rfl
theorem ltTest {f g : Nat} (hf : Floats.nan f = false) (hg : Floats.nan g = false) : (FloatKind.f64.format.order f g == some .lt) = decide (Floats.ev f < Floats.ev g) := by
  rw [show FloatKind.f64.format.order f g = _ from Floats.order_ev hf hg, Floats.cmp_int]
  by_cases h : Floats.ev f < Floats.ev g
  · rw [if_pos h]; simp [h]
  · rw [if_neg h]
    by_cases h2 : Floats.ev f = Floats.ev g
    · rw [if_pos h2]; simp [h]
    · rw [if_neg h2]; simp [h]
theorem gtTest {f g : Nat} (hf : Floats.nan f = false) (hg : Floats.nan g = false) : (FloatKind.f64.format.order f g == some .gt) = decide (Floats.ev g < Floats.ev f) := by
  rw [show FloatKind.f64.format.order f g = _ from Floats.order_ev hf hg, Floats.cmp_int]
  by_cases h : Floats.ev f < Floats.ev g
  · rw [if_pos h]; have : ¬ Floats.ev g < Floats.ev f := by omega
    simp [this]
  · rw [if_neg h]
    by_cases h2 : Floats.ev f = Floats.ev g
    · rw [if_pos h2]; simp [h2]
    · rw [if_neg h2]; have : Floats.ev g < Floats.ev f := by omega
      simp [this]

/-! ### the tags -/
theorem upon_step {P : Program} {o : Oper} {a : Act} {K : Act → World → Prop} {X : Exit → Act → World → Prop} {α : Type} {R R' : Result α} {F : α → World → Result Next} (h : R = R') (k : Oper.upon P o a K X (R'.andThen F)) :
    Oper.upon P o a K X (R.andThen F) := h ▸ k

theorem tagOf_nil (w : World) : Calls Try.prog 46 #[.nilIface] w fun e w' => e = .returned (.int .u8 4) ∧ w' = w := by
  go_enter Try.func46, Try.ntmps46
  go_wp2
  go_ret
  exact ⟨rfl, rfl⟩
theorem tagOf_int (x : Int) (w : World) : Calls Try.prog 46 #[.iface 26 (.int .i64 x)] w fun e w' => e = .returned (.int .u8 1) ∧ w' = w := by
  go_enter Try.func46, Try.ntmps46
  go_wp2
  refine upon_step (R' := .ok (43, .int .i64 x) w) (by kernel_rfl) ?_
  go_wp2
  go_ret
  exact ⟨rfl, rfl⟩
theorem tagOf_float (f : Nat) (w : World) : Calls Try.prog 46 #[.iface 28 (.float .f64 f)] w fun e w' => e = .returned (.int .u8 2) ∧ w' = w := by
  go_enter Try.func46, Try.ntmps46
  go_wp2
  refine upon_step (R' := .ok (44, .float .f64 f) w) (by kernel_rfl) ?_
  go_wp2
  go_ret
  exact ⟨rfl, rfl⟩
theorem tagOf_string (s : ByteArray) (w : World) : Calls Try.prog 46 #[.iface 30 (.string s)] w fun e w' => e = .returned (.int .u8 3) ∧ w' = w := by
  go_enter Try.func46, Try.ntmps46
  go_wp2
  refine upon_step (R' := .ok (45, .string s) w) (by kernel_rfl) ?_
  go_wp2
  go_ret
  exact ⟨rfl, rfl⟩

theorem cmpByte (a b : Int) (w : World) : Calls Try.prog 53 #[.int .u8 a, .int .u8 b] w fun e w' => e = .returned (.int .i64 (sg a b)) ∧ w' = w := by
  unfold sg
  go_enter Try.func53, Try.ntmps53
  go_wp2
  all_goals (go_ret; exact ⟨rfl, rfl⟩)
theorem cmpInt (a b : Int) (w : World) : Calls Try.prog 49 #[.int .i64 a, .int .i64 b] w fun e w' => e = .returned (.int .i64 (sg a b)) ∧ w' = w := by
  unfold sg
  go_enter Try.func49, Try.ntmps49
  go_wp2
  all_goals (go_ret; exact ⟨rfl, rfl⟩)
set_option maxHeartbeats 400000 in
theorem cmpFloat (f g : Nat) (w : World) (hf : Floats.nan f = false) (hg : Floats.nan g = false) : Calls Try.prog 51 #[.float .f64 f, .float .f64 g] w fun e w' => e = .returned (.int .i64 (sg (Floats.ev f) (Floats.ev g))) ∧ w' = w := by
  have n1 := numTest hf
  have n2 := numTest hg
  have l1 := ltTest hf hg
  have g1 := gtTest hf hg
  clear hf hg
  generalize Floats.ev f = a at *
  generalize Floats.ev g = b at *
  unfold sg
  go_enter Try.func51, Try.ntmps51
  go_wp2
  all_goals (go_ret; exact ⟨rfl, rfl⟩)
theorem cmpString (s t : ByteArray) (w : World) : Calls Try.prog 52 #[.string s, .string t] w fun e w' => e = .returned (.int .i64 (sm s t)) ∧ w' = w := by
  cases hp : Op.bytesLess s.toList t.toList
  · cases hq : (s.toList == t.toList)
    · have hr : Hid (sm s t = 1) := by show sm s t = 1; simp only [sm, hp, hq]; rfl
      go_enter Try.func52, Try.ntmps52
      go_wp2
      go_ret
      exact ⟨by rw [hr.out]; rfl, rfl⟩
    · have hr : Hid (sm s t = 0) := by show sm s t = 0; simp only [sm, hp, hq]; rfl
      go_enter Try.func52, Try.ntmps52
      go_wp2
      go_ret
      exact ⟨by rw [hr.out]; rfl, rfl⟩
  · have hr : Hid (sm s t = -1) := by show sm s t = -1; simp only [sm, hp]; rfl
    go_enter Try.func52, Try.ntmps52
    go_wp2
    go_ret
    exact ⟨by rw [hr.out]; rfl, rfl⟩
/-! ### the type assertions: closed facts -/
theorem ta26_26 (v : Value) (w : World) : (Instr.typeAssert (.iface 26 v) 65 26 true).run Try.prog w = .ok (.tuple #[v, .bool true]) w := by kernel_rfl
theorem ta26_28 (v : Value) (w : World) : (Instr.typeAssert (.iface 26 v) 65 28 true).run Try.prog w = .ok (.tuple #[.float .f64 0, .bool false]) w := by kernel_rfl
theorem ta26_30 (v : Value) (w : World) : (Instr.typeAssert (.iface 26 v) 65 30 true).run Try.prog w = .ok (.tuple #[.string ByteArray.empty, .bool false]) w := by kernel_rfl
theorem ta28_26 (v : Value) (w : World) : (Instr.typeAssert (.iface 28 v) 65 26 true).run Try.prog w = .ok (.tuple #[.int .i64 0, .bool false]) w := by kernel_rfl
theorem ta28_28 (v : Value) (w : World) : (Instr.typeAssert (.iface 28 v) 65 28 true).run Try.prog w = .ok (.tuple #[v, .bool true]) w := by kernel_rfl
theorem ta28_30 (v : Value) (w : World) : (Instr.typeAssert (.iface 28 v) 65 30 true).run Try.prog w = .ok (.tuple #[.string ByteArray.empty, .bool false]) w := by kernel_rfl
theorem ta30_26 (v : Value) (w : World) : (Instr.typeAssert (.iface 30 v) 65 26 true).run Try.prog w = .ok (.tuple #[.int .i64 0, .bool false]) w := by kernel_rfl
theorem ta30_28 (v : Value) (w : World) : (Instr.typeAssert (.iface 30 v) 65 28 true).run Try.prog w = .ok (.tuple #[.float .f64 0, .bool false]) w := by kernel_rfl
theorem ta30_30 (v : Value) (w : World) : (Instr.typeAssert (.iface 30 v) 65 30 true).run Try.prog w = .ok (.tuple #[v, .bool true]) w := by kernel_rfl
theorem taNil_26 (w : World) : (Instr.typeAssert .nilIface 65 26 true).run Try.prog w = .ok (.tuple #[.int .i64 0, .bool false]) w := by kernel_rfl
theorem taNil_28 (w : World) : (Instr.typeAssert .nilIface 65 28 true).run Try.prog w = .ok (.tuple #[.float .f64 0, .bool false]) w := by kernel_rfl
theorem taNil_30 (w : World) : (Instr.typeAssert .nilIface 65 30 true).run Try.prog w = .ok (.tuple #[.string ByteArray.empty, .bool false]) w := by kernel_rfl

/-! ### compareValues, kind by kind -/
set_option maxHeartbeats 400000 in
theorem cv_int (x y : Int) (w : World) : Calls Try.prog 47 #[.iface 26 (.int .i64 x), .iface 26 (.int .i64 y)] w fun e w' => e = .returned (.int .i64 (sg x y)) ∧ w' = w := by
  have t1 := ta26_26
  go_enter Try.func47, Try.ntmps47
  go_wp2_with (go_at_call 49; refine (cmpInt _ _ _).mono ?_; rintro e w' ⟨rfl, rfl⟩)
  go_ret
  exact ⟨rfl, rfl⟩
set_option maxHeartbeats 400000 in
theorem cv_string (s t : ByteArray) (w : World) : Calls Try.prog 47 #[.iface 30 (.string s), .iface 30 (.string t)] w fun e w' => e = .returned (.int .i64 (sm s t)) ∧ w' = w := by
  have t1 := ta30_26
  have t2 := ta30_28
  have t3 := ta30_30
  go_enter Try.func47, Try.ntmps47
  go_wp2_with (go_at_call 52; refine (cmpString _ _ _).mono ?_; rintro e w' ⟨rfl, rfl⟩)
  go_ret
  exact ⟨rfl, rfl⟩

set_option maxHeartbeats 400000 in
theorem cv_if (x : Int) (g : Nat) (w : World) : Calls Try.prog 47 #[.iface 26 (.int .i64 x), .iface 28 (.float .f64 g)] w fun e w' => e = .returned (.int .i64 (-1)) ∧ w' = w := by
  have t0 := ta26_26
  have t1 := ta28_26
  go_enter Try.func47, Try.ntmps47
  go_wp2_with fail
  refine (tagOf_int _ _).mono ?_
  rintro e w' ⟨rfl, rfl⟩
  go_wp2_with fail
  refine (tagOf_float _ _).mono ?_
  rintro e w' ⟨rfl, rfl⟩
  go_wp2_with fail
  refine (cmpByte _ _ _).mono ?_
  rintro e w' ⟨rfl, rfl⟩
  go_wp2
  go_ret
  exact ⟨rfl, rfl⟩

set_option maxHeartbeats 400000 in
theorem cv_is (x : Int) (t : ByteArray) (w : World) : Calls Try.prog 47 #[.iface 26 (.int .i64 x), .iface 30 (.string t)] w fun e w' => e = .returned (.int .i64 (-1)) ∧ w' = w := by
  have t0 := ta26_26
  have t1 := ta30_26
  go_enter Try.func47, Try.ntmps47
  go_wp2_with fail
  refine (tagOf_int _ _).mono ?_
  rintro e w' ⟨rfl, rfl⟩
  go_wp2_with fail
  refine (tagOf_string _ _).mono ?_
  rintro e w' ⟨rfl, rfl⟩
  go_wp2_with fail
  refine (cmpByte _ _ _).mono ?_
  rintro e w' ⟨rfl, rfl⟩
  go_wp2
  go_ret
  exact ⟨rfl, rfl⟩

set_option maxHeartbeats 400000 in
theorem cv_in (x : Int) (w : World) : Calls Try.prog 47 #[.iface 26 (.int .i64 x), .nilIface] w fun e w' => e = .returned (.int .i64 (-1)) ∧ w' = w := by
  have t0 := ta26_26
  have t1 := taNil_26
  go_enter Try.func47, Try.ntmps47
  go_wp2_with fail
  refine (tagOf_int _ _).mono ?_
  rintro e w' ⟨rfl, rfl⟩
  go_wp2_with fail
  refine (tagOf_nil _).mono ?_
  rintro e w' ⟨rfl, rfl⟩
  go_wp2_with fail
  refine (cmpByte _ _ _).mono ?_
  rintro e w' ⟨rfl, rfl⟩
  go_wp2
  go_ret
  exact ⟨rfl, rfl⟩

set_option maxHeartbeats 400000 in
theorem cv_fi (f : Nat) (y : Int) (w : World) : Calls Try.prog 47 #[.iface 28 (.float .f64 f), .iface 26 (.int .i64 y)] w fun e w' => e = .returned (.int .i64 (1)) ∧ w' = w := by
  have t0 := ta28_26
  have t1 := ta28_28
  have t2 := ta26_28
  go_enter Try.func47, Try.ntmps47
  go_wp2_with fail
  refine (tagOf_float _ _).mono ?_
  rintro e w' ⟨rfl, rfl⟩
  go_wp2_with fail
  refine (tagOf_int _ _).mono ?_
  rintro e w' ⟨rfl, rfl⟩
  go_wp2_with fail
  refine (cmpByte _ _ _).mono ?_
  rintro e w' ⟨rfl, rfl⟩
  go_wp2
  go_ret
  exact ⟨rfl, rfl⟩

set_option maxHeartbeats 400000 in
theorem cv_fs (f : Nat) (t : ByteArray) (w : World) : Calls Try.prog 47 #[.iface 28 (.float .f64 f), .iface 30 (.string t)] w fun e w' => e = .returned (.int .i64 (-1)) ∧ w' = w := by
  have t0 := ta28_26
  have t1 := ta28_28
  have t2 := ta30_28
  go_enter Try.func47, Try.ntmps47
  go_wp2_with fail
  refine (tagOf_float _ _).mono ?_
  rintro e w' ⟨rfl, rfl⟩
  go_wp2_with fail
  refine (tagOf_string _ _).mono ?_
  rintro e w' ⟨rfl, rfl⟩
  go_wp2_with fail
  refine (cmpByte _ _ _).mono ?_
  rintro e w' ⟨rfl, rfl⟩
  go_wp2
  go_ret
  exact ⟨rfl, rfl⟩

set_option maxHeartbeats 400000 in
theorem cv_fn (f : Nat) (w : World) : Calls Try.prog 47 #[.iface 28 (.float .f64 f), .nilIface] w fun e w' => e = .returned (.int .i64 (-1)) ∧ w' = w := by
  have t0 := ta28_26
  have t1 := ta28_28
  have t2 := taNil_28
  go_enter Try.func47, Try.ntmps47
  go_wp2_with fail
  refine (tagOf_float _ _).mono ?_
  rintro e w' ⟨rfl, rfl⟩
  go_wp2_with fail
  refine (tagOf_nil _).mono ?_
  rintro e w' ⟨rfl, rfl⟩
  go_wp2_with fail
  refine (cmpByte _ _ _).mono ?_
  rintro e w' ⟨rfl, rfl⟩
  go_wp2
  go_ret
  exact ⟨rfl, rfl⟩

set_option maxHeartbeats 400000 in
theorem cv_si (s : ByteArray) (y : Int) (w : World) : Calls Try.prog 47 #[.iface 30 (.string s), .iface 26 (.int .i64 y)] w fun e w' => e = .returned (.int .i64 (1)) ∧ w' = w := by
  have t0 := ta30_26
  have t1 := ta30_28
  have t2 := ta30_30
  have t3 := ta26_30
  go_enter Try.func47, Try.ntmps47
  go_wp2_with fail
  refine (tagOf_string _ _).mono ?_
  rintro e w' ⟨rfl, rfl⟩
  go_wp2_with fail
  refine (tagOf_int _ _).mono ?_
  rintro e w' ⟨rfl, rfl⟩
  go_wp2_with fail
  refine (cmpByte _ _ _).mono ?_
  rintro e w' ⟨rfl, rfl⟩
  go_wp2
  go_ret
  exact ⟨rfl, rfl⟩

set_option maxHeartbeats 400000 in
theorem cv_sf (s : ByteArray) (g : Nat) (w : World) : Calls Try.prog 47 #[.iface 30 (.string s), .iface 28 (.float .f64 g)] w fun e w' => e = .returned (.int .i64 (1)) ∧ w' = w := by
  have t0 := ta30_26
  have t1 := ta30_28
  have t2 := ta30_30
  have t3 := ta28_30
  go_enter Try.func47, Try.ntmps47
  go_wp2_with fail
  refine (tagOf_string _ _).mono ?_
  rintro e w' ⟨rfl, rfl⟩
  go_wp2_with fail
  refine (tagOf_float _ _).mono ?_
  rintro e w' ⟨rfl, rfl⟩
  go_wp2_with fail
  refine (cmpByte _ _ _).mono ?_
  rintro e w' ⟨rfl, rfl⟩
  go_wp2
  go_ret
  exact ⟨rfl, rfl⟩

set_option maxHeartbeats 400000 in
theorem cv_sn (s : ByteArray) (w : World) : Calls Try.prog 47 #[.iface 30 (.string s), .nilIface] w fun e w' => e = .returned (.int .i64 (-1)) ∧ w' = w := by
  have t0 := ta30_26
  have t1 := ta30_28
  have t2 := ta30_30
  have t3 := taNil_30
  go_enter Try.func47, Try.ntmps47
  go_wp2_with fail
  refine (tagOf_string _ _).mono ?_
  rintro e w' ⟨rfl, rfl⟩
  go_wp2_with fail
  refine (tagOf_nil _).mono ?_
  rintro e w' ⟨rfl, rfl⟩
  go_wp2_with fail
  refine (cmpByte _ _ _).mono ?_
  rintro e w' ⟨rfl, rfl⟩
  go_wp2
  go_ret
  exact ⟨rfl, rfl⟩

set_option maxHeartbeats 400000 in
theorem cv_ni (y : Int) (w : World) : Calls Try.prog 47 #[.nilIface, .iface 26 (.int .i64 y)] w fun e w' => e = .returned (.int .i64 (1)) ∧ w' = w := by
  have t0 := taNil_26
  have t1 := taNil_28
  have t2 := taNil_30
  go_enter Try.func47, Try.ntmps47
  go_wp2_with fail
  refine (tagOf_nil _).mono ?_
  rintro e w' ⟨rfl, rfl⟩
  go_wp2_with fail
  refine (tagOf_int _ _).mono ?_
  rintro e w' ⟨rfl, rfl⟩
  go_wp2_with fail
  refine (cmpByte _ _ _).mono ?_
  rintro e w' ⟨rfl, rfl⟩
  go_wp2
  go_ret
  exact ⟨rfl, rfl⟩

set_option maxHeartbeats 400000 in
theorem cv_nf (g : Nat) (w : World) : Calls Try.prog 47 #[.nilIface, .iface 28 (.float .f64 g)] w fun e w' => e = .returned (.int .i64 (1)) ∧ w' = w := by
  have t0 := taNil_26
  have t1 := taNil_28
  have t2 := taNil_30
  go_enter Try.func47, Try.ntmps47
  go_wp2_with fail
  refine (tagOf_nil _).mono ?_
  rintro e w' ⟨rfl, rfl⟩
  go_wp2_with fail
  refine (tagOf_float _ _).mono ?_
  rintro e w' ⟨rfl, rfl⟩
  go_wp2_with fail
  refine (cmpByte _ _ _).mono ?_
  rintro e w' ⟨rfl, rfl⟩
  go_wp2
  go_ret
  exact ⟨rfl, rfl⟩

set_option maxHeartbeats 400000 in
theorem cv_ns (t : ByteArray) (w : World) : Calls Try.prog 47 #[.nilIface, .iface 30 (.string t)] w fun e w' => e = .returned (.int .i64 (1)) ∧ w' = w := by
  have t0 := taNil_26
  have t1 := taNil_28
  have t2 := taNil_30
  go_enter Try.func47, Try.ntmps47
  go_wp2_with fail
  refine (tagOf_nil _).mono ?_
  rintro e w' ⟨rfl, rfl⟩
  go_wp2_with fail
  refine (tagOf_string _ _).mono ?_
  rintro e w' ⟨rfl, rfl⟩
  go_wp2_with fail
  refine (cmpByte _ _ _).mono ?_
  rintro e w' ⟨rfl, rfl⟩
  go_wp2
  go_ret
  exact ⟨rfl, rfl⟩

set_option maxHeartbeats 400000 in
theorem cv_nn (w : World) : Calls Try.prog 47 #[.nilIface, .nilIface] w fun e w' => e = .returned (.int .i64 (0)) ∧ w' = w := by
  have t0 := taNil_26
  have t1 := taNil_28
  have t2 := taNil_30
  go_enter Try.func47, Try.ntmps47
  go_wp2_with fail
  refine (tagOf_nil _).mono ?_
  rintro e w' ⟨rfl, rfl⟩
  go_wp2_with fail
  refine (tagOf_nil _).mono ?_
  rintro e w' ⟨rfl, rfl⟩
  go_wp2_with fail
  refine (cmpByte _ _ _).mono ?_
  rintro e w' ⟨rfl, rfl⟩
  go_wp2
  go_ret
  exact ⟨rfl, rfl⟩

/-- two floats: the four ways through 'is it a NaN' -/
theorem cv_float (f g : Nat) (w : World) : Calls Try.prog 47 #[.iface 28 (.float .f64 f), .iface 28 (.float .f64 g)] w fun e w' => e = .returned (.int .i64 (fm f g)) ∧ w' = w := by
  cases hf : Floats.nan f <;> cases hg : Floats.nan g
  · have hr : Hid (fm f g = sg (Floats.ev f) (Floats.ev g)) := by show fm f g = _; simp [fm, hf, hg]
    have hc := fun w => cmpFloat f g w hf hg
    have HC : Hid (∀ w, Calls Try.prog 51 #[.float .f64 f, .float .f64 g] w fun e w' => e = .returned (.int .i64 (sg (Floats.ev f) (Floats.ev g))) ∧ w' = w) := hc
    have t1 := ta28_26
    have t2 := ta28_28
    have n1 := numTest hf
    have n2 := numTest hg
    clear hf hg hc
    go_enter Try.func47, Try.ntmps47
    go_wp2_with (first | (go_at_call 50; go_in) | (go_at_call 51; refine (HC.out _).mono ?_; rintro e w' ⟨rfl, rfl⟩))
    go_ret
    exact ⟨by rw [hr.out]; rfl, rfl⟩
  · have hr : Hid (fm f g = -1) := by show fm f g = _; simp [fm, hf, hg]
    have t1 := ta28_26
    have t2 := ta28_28
    have n1 := numTest hf
    have n2 := nanTest hg
    clear hf hg
    go_enter Try.func47, Try.ntmps47
    go_wp2
    go_ret
    exact ⟨by rw [hr.out]; rfl, rfl⟩
  · have hr : Hid (fm f g = 1) := by show fm f g = _; simp [fm, hf, hg]
    have t1 := ta28_26
    have t2 := ta28_28
    have n1 := nanTest hf
    have n2 := numTest hg
    clear hf hg
    go_enter Try.func47, Try.ntmps47
    go_wp2
    go_ret
    exact ⟨by rw [hr.out]; rfl, rfl⟩
  · have hr : Hid (fm f g = 0) := by show fm f g = _; simp [fm, hf, hg]
    have t1 := ta28_26
    have t2 := ta28_28
    have n1 := nanTest hf
    have n2 := nanTest hg
    clear hf hg
    go_enter Try.func47, Try.ntmps47
    go_wp2
    go_ret
    exact ⟨by rw [hr.out]; rfl, rfl⟩

/-! ### the shims -/
theorem shim26 (x : Int) (g : Nat) (w : World) : Calls Try.prog 26 #[.int .i64 x, .float .f64 g] w fun e w' => e = .returned (.int .i64 (-1)) ∧ w' = w := by
  go_enter Try.func26, Try.ntmps26
  go_wp2_with (go_at_call 47; refine (cv_if _ _ _).mono ?_; rintro e w' ⟨rfl, rfl⟩)
  go_ret
  exact ⟨rfl, rfl⟩
theorem shim27 (x : Int) (t : ByteArray) (w : World) : Calls Try.prog 27 #[.int .i64 x, .string t] w fun e w' => e = .returned (.int .i64 (-1)) ∧ w' = w := by
  go_enter Try.func27, Try.ntmps27
  go_wp2_with (go_at_call 47; refine (cv_is _ _ _).mono ?_; rintro e w' ⟨rfl, rfl⟩)
  go_ret
  exact ⟨rfl, rfl⟩
theorem shim28 (x : Int) (w : World) : Calls Try.prog 28 #[.int .i64 x] w fun e w' => e = .returned (.int .i64 (-1)) ∧ w' = w := by
  go_enter Try.func28, Try.ntmps28
  go_wp2_with (go_at_call 47; refine (cv_in _ _).mono ?_; rintro e w' ⟨rfl, rfl⟩)
  go_ret
  exact ⟨rfl, rfl⟩
theorem shim29 (f : Nat) (y : Int) (w : World) : Calls Try.prog 29 #[.float .f64 f, .int .i64 y] w fun e w' => e = .returned (.int .i64 (1)) ∧ w' = w := by
  go_enter Try.func29, Try.ntmps29
  go_wp2_with (go_at_call 47; refine (cv_fi _ _ _).mono ?_; rintro e w' ⟨rfl, rfl⟩)
  go_ret
  exact ⟨rfl, rfl⟩
theorem shim30 (f : Nat) (t : ByteArray) (w : World) : Calls Try.prog 30 #[.float .f64 f, .string t] w fun e w' => e = .returned (.int .i64 (-1)) ∧ w' = w := by
  go_enter Try.func30, Try.ntmps30
  go_wp2_with (go_at_call 47; refine (cv_fs _ _ _).mono ?_; rintro e w' ⟨rfl, rfl⟩)
  go_ret
  exact ⟨rfl, rfl⟩
theorem shim31 (f : Nat) (w : World) : Calls Try.prog 31 #[.float .f64 f] w fun e w' => e = .returned (.int .i64 (-1)) ∧ w' = w := by
  go_enter Try.func31, Try.ntmps31
  go_wp2_with (go_at_call 47; refine (cv_fn _ _).mono ?_; rintro e w' ⟨rfl, rfl⟩)
  go_ret
  exact ⟨rfl, rfl⟩
theorem shim32 (s : ByteArray) (y : Int) (w : World) : Calls Try.prog 32 #[.string s, .int .i64 y] w fun e w' => e = .returned (.int .i64 (1)) ∧ w' = w := by
  go_enter Try.func32, Try.ntmps32
  go_wp2_with (go_at_call 47; refine (cv_si _ _ _).mono ?_; rintro e w' ⟨rfl, rfl⟩)
  go_ret
  exact ⟨rfl, rfl⟩
theorem shim33 (s : ByteArray) (g : Nat) (w : World) : Calls Try.prog 33 #[.string s, .float .f64 g] w fun e w' => e = .returned (.int .i64 (1)) ∧ w' = w := by
  go_enter Try.func33, Try.ntmps33
  go_wp2_with (go_at_call 47; refine (cv_sf _ _ _).mono ?_; rintro e w' ⟨rfl, rfl⟩)
  go_ret
  exact ⟨rfl, rfl⟩
theorem shim34 (s : ByteArray) (w : World) : Calls Try.prog 34 #[.string s] w fun e w' => e = .returned (.int .i64 (-1)) ∧ w' = w := by
  go_enter Try.func34, Try.ntmps34
  go_wp2_with (go_at_call 47; refine (cv_sn _ _).mono ?_; rintro e w' ⟨rfl, rfl⟩)
  go_ret
  exact ⟨rfl, rfl⟩
theorem shim35 (y : Int) (w : World) : Calls Try.prog 35 #[.int .i64 y] w fun e w' => e = .returned (.int .i64 (1)) ∧ w' = w := by
  go_enter Try.func35, Try.ntmps35
  go_wp2_with (go_at_call 47; refine (cv_ni _ _).mono ?_; rintro e w' ⟨rfl, rfl⟩)
  go_ret
  exact ⟨rfl, rfl⟩
theorem shim36 (g : Nat) (w : World) : Calls Try.prog 36 #[.float .f64 g] w fun e w' => e = .returned (.int .i64 (1)) ∧ w' = w := by
  go_enter Try.func36, Try.ntmps36
  go_wp2_with (go_at_call 47; refine (cv_nf _ _).mono ?_; rintro e w' ⟨rfl, rfl⟩)
  go_ret
  exact ⟨rfl, rfl⟩
theorem shim37 (t : ByteArray) (w : World) : Calls Try.prog 37 #[.string t] w fun e w' => e = .returned (.int .i64 (1)) ∧ w' = w := by
  go_enter Try.func37, Try.ntmps37
  go_wp2_with (go_at_call 47; refine (cv_ns _ _).mono ?_; rintro e w' ⟨rfl, rfl⟩)
  go_ret
  exact ⟨rfl, rfl⟩
theorem shim38 (w : World) : Calls Try.prog 38 #[] w fun e w' => e = .returned (.int .i64 (0)) ∧ w' = w := by
  go_enter Try.func38, Try.ntmps38
  go_wp2_with (go_at_call 47; refine (cv_nn _).mono ?_; rintro e w' ⟨rfl, rfl⟩)
  go_ret
  exact ⟨rfl, rfl⟩
theorem shim20 (x : Int) (y : Int) (w : World) : Calls Try.prog 20 #[.int .i64 x, .int .i64 y] w fun e w' => e = .returned (.int .i64 (sg x y)) ∧ w' = w := by
  go_enter Try.func20, Try.ntmps20
  go_wp2_with (go_at_call 47; refine (cv_int _ _ _).mono ?_; rintro e w' ⟨rfl, rfl⟩)
  go_ret
  exact ⟨rfl, rfl⟩
theorem shim22 (f : Nat) (g : Nat) (w : World) : Calls Try.prog 22 #[.float .f64 f, .float .f64 g] w fun e w' => e = .returned (.int .i64 (fm f g)) ∧ w' = w := by
  go_enter Try.func22, Try.ntmps22
  go_wp2_with (go_at_call 47; refine (cv_float _ _ _).mono ?_; rintro e w' ⟨rfl, rfl⟩)
  go_ret
  exact ⟨rfl, rfl⟩
theorem shim24 (s : ByteArray) (t : ByteArray) (w : World) : Calls Try.prog 24 #[.string s, .string t] w fun e w' => e = .returned (.int .i64 (sm s t)) ∧ w' = w := by
  go_enter Try.func24, Try.ntmps24
  go_wp2_with (go_at_call 47; refine (cv_string _ _ _).mono ?_; rintro e w' ⟨rfl, rfl⟩)
  go_ret
  exact ⟨rfl, rfl⟩
end Go.Proofs.Qxb6605616a
