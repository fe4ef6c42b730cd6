/-
  THE GENERATOR BY ITS CONTRACTS: next, intn, the maker, the state; each computes a plain function on natural numbers.
-/
import Derived.Test.Qxb6605658aProg
import Derived.WalkKit
import Derived.WalkLawsBesides
import Derived.Laws.BitsAllLaws
namespace Go.Proofs.Qxb6605658a
open Go.RowKit

/-- the state behind one draw -/
def nx (x : Nat) : Nat := (x + 11400714819323198485) % 18446744073709551616
/-- one step of the finaliser: exclusive or with the word shifted down (s a power of two), times C -/
def st (s C z : Nat) : Nat := (z ^^^ z / s) * C % 18446744073709551616
/-- the last step -/
def fin (z : Nat) : Nat := z ^^^ z / 2147483648
/-- the finaliser -/
def mix (z : Nat) : Nat := fin (st 134217728 10723151780598845931 (st 1073741824 13787848793156543929 z))
/-- the word that a draw at state x gives -/
def wd (x : Nat) : Nat := mix (nx x)

theorem nx_lt (x : Nat) : nx x < 18446744073709551616 := Nat.mod_lt _ (by decide)
theorem st_lt (s C z : Nat) : st s C z < 18446744073709551616 := Nat.mod_lt _ (by decide)
theorem fin_lt (z : Nat) (h : z < 18446744073709551616) : fin z < 18446744073709551616 :=
  Nat.xor_lt_two_pow (n := 64) h (Nat.lt_of_le_of_lt (Nat.div_le_self _ _) h)
theorem wd_lt (x : Nat) : wd x < 18446744073709551616 := fin_lt _ (st_lt _ _ _)

/-! ### as the walk writes them -/
theorem nx_eq (x : Nat) : IntKind.u64.wrap ((x : Int) + 11400714819323198485) = (nx x : Int) := by
  rw [IntKind.wrap_u64]; unfold nx; omega
theorem st_eq1 (z : Nat) (h : z < 18446744073709551616) : IntKind.u64.wrap (bits .xor .u64 (z : Int) ((z : Int) / 1073741824) * 13787848793156543929) = (st 1073741824 13787848793156543929 z : Int) :=
  mixStep_u64 z 1073741824 13787848793156543929 h
theorem st_eq2 (z : Nat) (h : z < 18446744073709551616) : IntKind.u64.wrap (bits .xor .u64 (z : Int) ((z : Int) / 134217728) * 10723151780598845931) = (st 134217728 10723151780598845931 z : Int) :=
  mixStep_u64 z 134217728 10723151780598845931 h
theorem fin_eq (z : Nat) (h : z < 18446744073709551616) : bits .xor .u64 (z : Int) ((z : Int) / 2147483648) = (fin z : Int) :=
  xorShift_u64 z 2147483648 h

set_option maxHeartbeats 400000 in
theorem next29 (x : Nat) (a : Addr) (w : World) (hc : w.cell? a = some (.int .u64 (x : Int))) (hf : w.frozen? a = false) :
    Calls Try.prog 29 #[.pointer (some a)] w fun e w' => e = .returned (.int .u64 (wd x : Int)) ∧ w' = w.setCell a (.int .u64 (nx x : Int)) := by
  have e1 := nx_eq x
  have e2 := st_eq1 (nx x) (nx_lt x)
  have e3 := st_eq2 _ (st_lt 1073741824 13787848793156543929 (nx x))
  have e4 := fin_eq _ (st_lt 134217728 10723151780598845931 (st 1073741824 13787848793156543929 (nx x)))
  go_enter Try.func29, Try.ntmps29
  go_wp2
  go_ret
  exact ⟨rfl, rfl⟩

theorem rem_i64 (x : Nat) (n : Int) (h1 : 1 ≤ n) (h2 : n ≤ 9223372036854775807) : wrap64 ((x : Int) % n) = (x : Int) % n := by
  have a1 := Int.emod_nonneg (x : Int) (show n ≠ 0 by omega)
  have a2 := Int.emod_lt_of_pos (x : Int) (show 0 < n by omega)
  unfold wrap64; omega
theorem wrap_n (n : Int) (h1 : 1 ≤ n) (h2 : n ≤ 9223372036854775807) : IntKind.u64.wrap n = n := by
  rw [IntKind.wrap_u64]; omega

set_option maxHeartbeats 400000 in
theorem intn26 (x : Nat) (n : Int) (a : Addr) (w : World) (h1 : 1 ≤ n) (h2 : n ≤ 9223372036854775807) (hc : w.cell? a = some (.int .u64 (x : Int))) (hf : w.frozen? a = false) :
    Calls Try.prog 26 #[.pointer (some a), .int .i64 n] w fun e w' => e = .returned (.int .i64 ((wd x : Int) % n)) ∧ w' = w.setCell a (.int .u64 (nx x : Int)) := by
  have e1 := wrap_n n h1 h2
  have e2 : Hid (wrap64 ((wd x : Int) % n) = (wd x : Int) % n) := rem_i64 (wd x) n h1 h2
  clear h2
  go_enter Try.func26, Try.ntmps26
  go_wp2_with fail
  refine (next29 x _ _ hc hf).mono ?_
  rintro e w' ⟨rfl, rfl⟩
  go_wp2
  go_ret
  exact ⟨congrArg (fun z : Int => Ending.returned (Value.int IntKind.i64 z)) e2.out, rfl⟩
set_option maxHeartbeats 400000 in
theorem intn19 (x : Nat) (n : Int) (a : Addr) (w : World) (h1 : 1 ≤ n) (h2 : n ≤ 9223372036854775807) (hc : w.cell? a = some (.int .u64 (x : Int))) (hf : w.frozen? a = false) :
    Calls Try.prog 19 #[.pointer (some a), .int .i64 n] w fun e w' => e = .returned (.int .i64 ((wd x : Int) % n)) ∧ w' = w.setCell a (.int .u64 (nx x : Int)) := by
  go_enter Try.func19, Try.ntmps19
  go_wp2_with fail
  refine (intn26 x _ _ _ h1 h2 hc hf).mono ?_
  rintro e w' ⟨rfl, rfl⟩
  go_wp2
  go_ret
  exact ⟨rfl, rfl⟩
theorem make20 (x : Int) (w : World) : Calls Try.prog 20 #[.int .u64 x] w fun e w' => e = .returned (.pointer (some ⟨w.heap.size, 0, none⟩)) ∧ w' = w.alloc (.cells #[.int .u64 x] 48) := by
  go_enter Try.func20, Try.ntmps20
  go_wp2
  go_ret
  exact ⟨rfl, rfl⟩
theorem state23 (x : Int) (a : Addr) (w : World) (hc : w.cell? a = some (.int .u64 x)) : Calls Try.prog 23 #[.pointer (some a)] w fun e w' => e = .returned (.int .u64 x) ∧ w' = w := by
  go_enter Try.func23, Try.ntmps23
  go_wp2
  go_ret
  exact ⟨rfl, rfl⟩
end Go.Proofs.Qxb6605658a
