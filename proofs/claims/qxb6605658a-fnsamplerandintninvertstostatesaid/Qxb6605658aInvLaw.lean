/-
  THE PLAIN LAW: the finaliser's steps undone, last step first; no Go in sight.
-/
import Derived.Test.Qxb6605658aRand
namespace Go.Proofs.Qxb6605658a

/-! ### exclusive or with the word shifted down, undone -/
/-- one round: y with x shifted down -/
def ux (S y x : Nat) : Nat := y ^^^ x / S
/-- three rounds from y -/
def un (S y : Nat) : Nat := ux S y (ux S y (ux S y y))

theorem ux_lt {S y x : Nat} (hy : y < 18446744073709551616) (hx : x < 18446744073709551616) : ux S y x < 18446744073709551616 :=
  Nat.xor_lt_two_pow (n := 64) hy (Nat.lt_of_le_of_lt (Nat.div_le_self _ _) hx)
theorem ux_eq (S y x : Nat) (hy : y < 18446744073709551616) (hx : x < 18446744073709551616) : bits .xor .u64 (y : Int) ((x : Int) / (S : Int)) = (ux S y x : Int) := by
  rw [show ((x : Int) / (S : Int)) = ((x / S : Nat) : Int) from (Int.natCast_ediv x S).symm]
  exact bits_xor_u64_nat _ _ hy (Nat.lt_of_le_of_lt (Nat.div_le_self _ _) hx)

theorem xor_div (a b k : Nat) : (a ^^^ b) / 2 ^ k = a / 2 ^ k ^^^ b / 2 ^ k := by
  rw [← Nat.shiftRight_eq_div_pow, ← Nat.shiftRight_eq_div_pow, ← Nat.shiftRight_eq_div_pow, Nat.shiftRight_xor_distrib]
theorem xor_cancel (a b c : Nat) : (a ^^^ b) ^^^ (b ^^^ c) = a ^^^ c := by
  rw [Nat.xor_assoc, ← Nat.xor_assoc b b c, Nat.xor_self, Nat.zero_xor]

theorem un_shift (k x : Nat) (hk : x < 2 ^ (4 * k)) : un (2 ^ k) (x ^^^ x / 2 ^ k) = x := by
  have d2 : x / 2 ^ k / 2 ^ k = x / 2 ^ (2 * k) := by rw [Nat.div_div_eq_div_mul, ← Nat.pow_add]; congr 2; omega
  have d3 : x / 2 ^ (2 * k) / 2 ^ k = x / 2 ^ (3 * k) := by rw [Nat.div_div_eq_div_mul, ← Nat.pow_add]; congr 2; omega
  have d4 : x / 2 ^ (3 * k) / 2 ^ k = 0 := by
    rw [Nat.div_div_eq_div_mul, ← Nat.pow_add]
    exact Nat.div_eq_of_lt (by rw [show 3 * k + k = 4 * k by omega]; exact hk)
  have s1 : ux (2 ^ k) (x ^^^ x / 2 ^ k) (x ^^^ x / 2 ^ k) = x ^^^ x / 2 ^ (2 * k) := by
    unfold ux; rw [xor_div, d2, xor_cancel]
  have s2 : ux (2 ^ k) (x ^^^ x / 2 ^ k) (x ^^^ x / 2 ^ (2 * k)) = x ^^^ x / 2 ^ (3 * k) := by
    unfold ux; rw [xor_div, d3, xor_cancel]
  have s3 : ux (2 ^ k) (x ^^^ x / 2 ^ k) (x ^^^ x / 2 ^ (3 * k)) = x := by
    unfold ux; rw [xor_div, d4, xor_cancel, Nat.xor_zero]
  unfold un
  rw [s1, s2, s3]

/-! ### the inverse of an odd number, by Newton's iteration -/
def nw (c x : Nat) : Nat := x * ((18446744073709551618 - c * x % 18446744073709551616) % 18446744073709551616) % 18446744073709551616
def iv (c : Nat) : Nat → Nat
  | 0 => c
  | k + 1 => nw c (iv c k)
theorem nw_eq (c z : Nat) : IntKind.u64.wrap ((z : Int) * IntKind.u64.wrap (2 - IntKind.u64.wrap ((c : Int) * (z : Int)))) = (nw c z : Int) := by
  rw [IntKind.wrap_u64, IntKind.wrap_u64, IntKind.wrap_u64]
  unfold nw
  have hp : ((c : Int) * (z : Int)) % 18446744073709551616 = ((c * z % 18446744073709551616 : Nat) : Int) := by
    rw [Int.natCast_emod, Int.natCast_mul]; rfl
  rw [hp]
  have hlt : c * z % 18446744073709551616 < 18446744073709551616 := Nat.mod_lt _ (by decide)
  generalize c * z % 18446744073709551616 = p at *
  have hq : (2 - (p : Int)) % 18446744073709551616 = (((18446744073709551618 - p) % 18446744073709551616 : Nat) : Int) := by omega
  rw [hq]
  generalize (18446744073709551618 - p) % 18446744073709551616 = r
  rw [Int.natCast_emod, Int.natCast_mul]
  rfl

theorem iv2 : 10723151780598845931 * iv 10723151780598845931 5 % 18446744073709551616 = 1 := by decide +kernel
theorem iv1 : 13787848793156543929 * iv 13787848793156543929 5 % 18446744073709551616 = 1 := by decide +kernel

theorem mul_back (a c i : Nat) (ha : a < 18446744073709551616) (h : c * i % 18446744073709551616 = 1) : a * c % 18446744073709551616 * i % 18446744073709551616 = a := by
  rw [Nat.mod_mul_mod, Nat.mul_assoc, Nat.mul_mod, h, Nat.mul_one, Nat.mod_mod, Nat.mod_eq_of_lt ha]

/-! ### the finaliser undone -/
def unmix (z : Nat) : Nat := un 1073741824 (un 134217728 (un 2147483648 z * iv 10723151780598845931 5 % 18446744073709551616) * iv 13787848793156543929 5 % 18446744073709551616)

theorem sh_lt {S z : Nat} (h : z < 18446744073709551616) : z ^^^ z / S < 18446744073709551616 :=
  Nat.xor_lt_two_pow (n := 64) h (Nat.lt_of_le_of_lt (Nat.div_le_self _ _) h)

theorem unmix_mix (v : Nat) (h : v < 18446744073709551616) : unmix (mix v) = v := by
  have e31 : ∀ x, x < 18446744073709551616 → un 2147483648 (x ^^^ x / 2147483648) = x := fun x hx => un_shift 31 x (Nat.lt_trans hx (by decide))
  have e27 : ∀ x, x < 18446744073709551616 → un 134217728 (x ^^^ x / 134217728) = x := fun x hx => un_shift 27 x (Nat.lt_trans hx (by decide))
  have e30 : ∀ x, x < 18446744073709551616 → un 1073741824 (x ^^^ x / 1073741824) = x := fun x hx => un_shift 30 x (Nat.lt_trans hx (by decide))
  unfold unmix mix fin
  rw [e31 _ (st_lt _ _ _)]
  have h1 := st_lt 1073741824 13787848793156543929 v
  rw [show st 134217728 10723151780598845931 (st 1073741824 13787848793156543929 v) = (st 1073741824 13787848793156543929 v ^^^ st 1073741824 13787848793156543929 v / 134217728) * 10723151780598845931 % 18446744073709551616 from rfl]
  rw [mul_back _ _ _ (sh_lt h1) iv2, e27 _ h1]
  rw [show st 1073741824 13787848793156543929 v = (v ^^^ v / 1073741824) * 13787848793156543929 % 18446744073709551616 from rfl]
  rw [mul_back _ _ _ (sh_lt h) iv1, e30 _ h]

/-! ### the one word with the given remainders -/
theorem join_core (lo t k : Int) (h0 : 0 ≤ lo) (h1 : lo < 4611686018427387904) (ht : t ≤ 3) (hk0 : 0 ≤ k) (hk : k ≤ t) :
    IntKind.u64.wrap (lo + k * 4611686018427387904) = lo + k * 4611686018427387904 ∧ ((lo + k * 4611686018427387904).tmod 5 = (lo + t * 4611686018427387904) % 5 ↔ k = t) := by
  rw [IntKind.wrap_u64]
  refine ⟨Int.emod_eq_of_lt (by omega) (by omega), ?_⟩
  rw [Int.tmod_eq_emod_of_nonneg (by omega)]
  have e : ∀ c : Int, (lo + c * 4611686018427387904) % 5 = (lo + 4 * c) % 5 := fun c => by omega
  rw [e, e]
  omega
theorem word_split (z : Nat) (h : z < 18446744073709551616) : ∃ lo t : Int, 0 ≤ lo ∧ lo < 4611686018427387904 ∧ 0 ≤ t ∧ t ≤ 3 ∧ (z : Int) = lo + t * 4611686018427387904 ∧ (z : Int) % 4611686018427387904 = lo :=
  ⟨(z : Int) % 4611686018427387904, (z : Int) / 4611686018427387904, by omega, by omega, by omega, by omega, by omega, rfl⟩
end Go.Proofs.Qxb6605658a
