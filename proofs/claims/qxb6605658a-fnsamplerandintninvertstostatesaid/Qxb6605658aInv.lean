/-
  THE WALKS of the law's own inverse (zzUnxorshift, zzInverseOdd, zzUnmix, zzJoinMod).
-/
import Derived.Test.Qxb6605658aInvLaw
namespace Go.Proofs.Qxb6605658a
open Go.RowKit

set_option maxHeartbeats 400000 in
theorem un27_31 (y : Nat) (w : World) (h : y < 18446744073709551616) :
    Calls Try.prog 27 #[.int .u64 (y : Int), .int .u64 31] w fun e w' => e = .returned (.int .u64 (un 2147483648 y : Int)) ∧ w' = w := by
  have e1 : bits .xor .u64 (y : Int) ((y : Int) / 2147483648) = (ux 2147483648 y y : Int) := ux_eq 2147483648 y y h h
  have e2 : bits .xor .u64 (y : Int) ((ux 2147483648 y y : Int) / 2147483648) = (ux 2147483648 y (ux 2147483648 y y) : Int) := ux_eq 2147483648 y _ h (ux_lt h h)
  have e3 : bits .xor .u64 (y : Int) ((ux 2147483648 y (ux 2147483648 y y) : Int) / 2147483648) = (un 2147483648 y : Int) := ux_eq 2147483648 y _ h (ux_lt h (ux_lt h h))
  clear h
  go_enter Try.func27, Try.ntmps27
  go_wp2
  refine wp_loop_rounds 4 ?_
  rw [rounds_succ]
  go_wp2
  rw [rounds_succ]
  go_wp2
  rw [rounds_succ]
  go_wp2
  rw [rounds_succ]
  go_wp2
  go_ret
  exact ⟨rfl, rfl⟩
set_option maxHeartbeats 400000 in
theorem un27_27 (y : Nat) (w : World) (h : y < 18446744073709551616) :
    Calls Try.prog 27 #[.int .u64 (y : Int), .int .u64 27] w fun e w' => e = .returned (.int .u64 (un 134217728 y : Int)) ∧ w' = w := by
  have e1 : bits .xor .u64 (y : Int) ((y : Int) / 134217728) = (ux 134217728 y y : Int) := ux_eq 134217728 y y h h
  have e2 : bits .xor .u64 (y : Int) ((ux 134217728 y y : Int) / 134217728) = (ux 134217728 y (ux 134217728 y y) : Int) := ux_eq 134217728 y _ h (ux_lt h h)
  have e3 : bits .xor .u64 (y : Int) ((ux 134217728 y (ux 134217728 y y) : Int) / 134217728) = (un 134217728 y : Int) := ux_eq 134217728 y _ h (ux_lt h (ux_lt h h))
  clear h
  go_enter Try.func27, Try.ntmps27
  go_wp2
  refine wp_loop_rounds 4 ?_
  rw [rounds_succ]
  go_wp2
  rw [rounds_succ]
  go_wp2
  rw [rounds_succ]
  go_wp2
  rw [rounds_succ]
  go_wp2
  go_ret
  exact ⟨rfl, rfl⟩
set_option maxHeartbeats 400000 in
theorem un27_30 (y : Nat) (w : World) (h : y < 18446744073709551616) :
    Calls Try.prog 27 #[.int .u64 (y : Int), .int .u64 30] w fun e w' => e = .returned (.int .u64 (un 1073741824 y : Int)) ∧ w' = w := by
  have e1 : bits .xor .u64 (y : Int) ((y : Int) / 1073741824) = (ux 1073741824 y y : Int) := ux_eq 1073741824 y y h h
  have e2 : bits .xor .u64 (y : Int) ((ux 1073741824 y y : Int) / 1073741824) = (ux 1073741824 y (ux 1073741824 y y) : Int) := ux_eq 1073741824 y _ h (ux_lt h h)
  have e3 : bits .xor .u64 (y : Int) ((ux 1073741824 y (ux 1073741824 y y) : Int) / 1073741824) = (un 1073741824 y : Int) := ux_eq 1073741824 y _ h (ux_lt h (ux_lt h h))
  clear h
  go_enter Try.func27, Try.ntmps27
  go_wp2
  refine wp_loop_rounds 4 ?_
  rw [rounds_succ]
  go_wp2
  rw [rounds_succ]
  go_wp2
  rw [rounds_succ]
  go_wp2
  rw [rounds_succ]
  go_wp2
  go_ret
  exact ⟨rfl, rfl⟩

theorem ret_u64 {a b : Int} (h : a = b) : Ending.returned (.int .u64 a) = .returned (.int .u64 b) := by rw [h]

set_option maxHeartbeats 400000 in
theorem inv28 (c : Nat) (w : World) :
    Calls Try.prog 28 #[.int .u64 (c : Int)] w fun e w' => e = .returned (.int .u64 (iv c 5 : Int)) ∧ w' = w := by
  go_enter Try.func28, Try.ntmps28
  go_wp2
  go_loop [3, 4] (fun x i => ∃ k : Nat, k ≤ 5 ∧ i = .int .i64 k ∧ ∃ z : Nat, x = .int .u64 z ∧ Hid (z = iv c k)) (fun _ i => 5 - (intOf i).toNat)
  case atStart => exact ⟨0, by omega, rfl, c, rfl, rfl⟩
  case round =>
    obtain ⟨k, hk, rfl, z, rfl, hz⟩ := hrel
    by_cases hlt : k < 5
    · have HE : Hid (IntKind.u64.wrap ((z : Int) * IntKind.u64.wrap (2 - IntKind.u64.wrap ((c : Int) * (z : Int)))) = (nw c z : Int)) := nw_eq c z
      go_wp2
      go_round
      case rel => exact ⟨k + 1, by omega, by go_num, nw c z, congrArg (Value.int .u64) HE.out, (by rw [hz.out]; rfl : nw c z = iv c (k + 1))⟩
      case measure => simp [intOf]; omega
    · have hk5 : Hid (k = 5) := (by omega : k = 5)
      go_wp2
      go_ret
      exact ⟨ret_u64 (by rw [hz.out, hk5.out]), rfl⟩

set_option maxHeartbeats 400000 in
theorem join21 (lo m5 z : Int) (t : Nat) (w : World) (ht : t ≤ 3) (HZ : Hid (lo + (t : Int) * 4611686018427387904 = z))
    (HN : Hid (∀ k : Nat, k ≤ t → IntKind.u64.wrap (lo + (k : Int) * 4611686018427387904) = lo + (k : Int) * 4611686018427387904 ∧ ((lo + (k : Int) * 4611686018427387904).tmod 5 = m5 ↔ (k : Int) = (t : Int)))) :
    Calls Try.prog 21 #[.int .u64 lo, .int .u64 m5] w fun e w' => e = .returned (.tuple #[.int .u64 z, .bool true]) ∧ w' = w := by
  go_enter Try.func21, Try.ntmps21
  go_wp2
  go_loop [6] (fun i => ∃ k : Nat, k ≤ t ∧ i = .int .u64 k) (fun i => 5 - (intOf i).toNat)
  case atStart => exact ⟨0, Nat.zero_le _, rfl⟩
  case round =>
    obtain ⟨k, hk, rfl⟩ := hrel
    have hlt : k < 4 := by omega
    by_cases hkt : k < t
    · have hT : ((IntKind.u64.wrap (lo + (k : Int) * 4611686018427387904)).tmod 5 == m5) = false := by
        obtain ⟨g1, g2⟩ := HN.out k hk
        rw [g1]
        exact beq_eq_false_iff_ne.2 (fun g => by have := g2.1 g; omega)
      go_wp2
      go_round
      case rel => exact ⟨k + 1, by omega, by go_num⟩
      case measure => simp [intOf]; omega
    · have hT : ((IntKind.u64.wrap (lo + (k : Int) * 4611686018427387904)).tmod 5 == m5) = true := by
        obtain ⟨g1, g2⟩ := HN.out k hk
        rw [g1]
        exact beq_iff_eq.2 (g2.2 (by omega))
      have HV : Hid (IntKind.u64.wrap (lo + (k : Int) * 4611686018427387904) = z) := by
        show _ = z
        rw [(HN.out k hk).1, ← HZ.out, show k = t by omega]
      go_wp2
      go_ret2
      exact ⟨congrArg (fun v : Int => Ending.returned (Value.tuple #[.int .u64 v, .bool true])) HV.out, rfl⟩

theorem mul_eq (a i : Nat) : IntKind.u64.wrap ((a : Int) * (i : Int)) = ((a * i % 18446744073709551616 : Nat) : Int) := by
  rw [IntKind.wrap_u64, Int.natCast_emod, Int.natCast_mul]; rfl
theorem un_lt {S y : Nat} (h : y < 18446744073709551616) : un S y < 18446744073709551616 := ux_lt h (ux_lt h (ux_lt h h))

/-- the product of two words -/
def pr (a i : Nat) : Nat := a * i % 18446744073709551616
theorem pr_lt (a i : Nat) : pr a i < 18446744073709551616 := Nat.mod_lt _ (by decide)
theorem pr_eq (a i : Nat) : IntKind.u64.wrap ((a : Int) * (i : Int)) = (pr a i : Int) := mul_eq a i

set_option maxHeartbeats 400000 in
theorem unmix22 (z : Nat) (w : World) (h : z < 18446744073709551616) :
    Calls Try.prog 22 #[.int .u64 (z : Int)] w fun e w' => e = .returned (.int .u64 (unmix z : Int)) ∧ w' = w := by
  have H0 : Hid (z < 18446744073709551616) := h
  have e1 := pr_eq (un 2147483648 z) (iv 10723151780598845931 5)
  have e2 := pr_eq (un 134217728 (pr (un 2147483648 z) (iv 10723151780598845931 5))) (iv 13787848793156543929 5)
  clear h
  go_enter Try.func22, Try.ntmps22
  go_wp2_with fail
  refine (un27_31 z _ H0.out).mono ?_
  rintro e w' ⟨rfl, rfl⟩
  go_wp2_with fail
  refine (inv28 10723151780598845931 _).mono ?_
  rintro e w' ⟨rfl, rfl⟩
  go_wp2_with fail
  refine (un27_27 (pr (un 2147483648 z) (iv 10723151780598845931 5)) _ (pr_lt _ _)).mono ?_
  rintro e w' ⟨rfl, rfl⟩
  go_wp2_with fail
  refine (inv28 13787848793156543929 _).mono ?_
  rintro e w' ⟨rfl, rfl⟩
  go_wp2_with fail
  refine (un27_30 (pr (un 134217728 (pr (un 2147483648 z) (iv 10723151780598845931 5))) (iv 13787848793156543929 5)) _ (pr_lt _ _)).mono ?_
  rintro e w' ⟨rfl, rfl⟩
  go_wp2
  go_ret
  exact ⟨rfl, rfl⟩
end Go.Proofs.Qxb6605658a
