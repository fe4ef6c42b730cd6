/-
  THE PLAIN LAW OF THE SORT KEYS: the unsigned order of the keys is the order of the numbers; no Go in sight.
-/
import Derived.Test.Qxb6605616aCmp
import Derived.Laws.BitsAllLaws
namespace Go.Proofs.Qxb6605616a
open Floats

/-! ### bits of 64-bit words, as natural numbers -/
theorem xor_top (n : Nat) (h : n < 2 ^ 63) : n ^^^ 2 ^ 63 = n + 2 ^ 63 := by
  have e : n + 2 ^ 63 = 2 ^ 63 ||| n := by
    have := Nat.two_pow_add_eq_or_of_lt h 1
    simpa [Nat.add_comm] using this
  rw [e]
  apply Nat.eq_of_testBit_eq
  intro i
  rw [Nat.testBit_xor, Nat.testBit_or, Nat.testBit_two_pow]
  by_cases hi : 63 = i
  · subst hi
    rw [Nat.testBit_lt_two_pow h]; simp
  · simp [hi]
theorem xor_top' (n : Nat) (h1 : 2 ^ 63 ≤ n) (h2 : n < 2 ^ 64) : n ^^^ 2 ^ 63 = n - 2 ^ 63 := by
  obtain ⟨m, rfl⟩ : ∃ m, n = m + 2 ^ 63 := ⟨n - 2 ^ 63, by omega⟩
  rw [← xor_top m (by omega), Nat.xor_assoc, Nat.xor_self, Nat.xor_zero, xor_top m (by omega)]
  omega
theorem not_word (n : Nat) (h : n < 2 ^ 64) : (2 ^ 64 - 1) ^^^ n = 2 ^ 64 - 1 - n := by
  have e : (BitVec.allOnes 64 ^^^ BitVec.ofNat 64 n).toNat = 2 ^ 64 - 1 - n := by
    rw [BitVec.allOnes_xor, BitVec.toNat_not, BitVec.toNat_ofNat, Nat.mod_eq_of_lt h]
  rw [BitVec.toNat_xor, BitVec.toNat_allOnes, BitVec.toNat_ofNat, Nat.mod_eq_of_lt h] at e
  exact e
theorem or_top (n : Nat) (h : n < 2 ^ 63) : n ||| 2 ^ 63 = n + 2 ^ 63 := by
  rw [Nat.or_comm, nat_join 63 (2 ^ 63) n (by decide) h, Nat.add_comm]

/-! ### the key of an int -/
def ikey (x : Int) : Int := x + 9223372036854775808
theorem ikey_eq (x : Int) (h1 : -9223372036854775808 ≤ x) (h2 : x ≤ 9223372036854775807) : bits .xor .u64 (IntKind.u64.wrap x) 9223372036854775808 = ikey x := by
  rw [IntKind.wrap_u64, u64_xor _ _ (by omega) (by omega) (by omega) (by omega)]
  unfold ikey
  rw [show (9223372036854775808 : Int).toNat = 2 ^ 63 from rfl]
  by_cases h : 0 ≤ x
  · have e : (x % 18446744073709551616).toNat = x.toNat := by omega
    rw [e, xor_top _ (by omega)]
    omega
  · have e : (x % 18446744073709551616).toNat = (x + 18446744073709551616).toNat := by omega
    rw [e, xor_top' _ (by omega) (by omega)]
    omega
theorem sg_ikey (x y : Int) : sg (ikey x) (ikey y) = sg x y := by
  unfold sg ikey
  by_cases h : x < y
  · rw [if_pos (by omega), if_pos h]
  · rw [if_neg (by omega), if_neg h]
    by_cases h2 : y < x
    · rw [if_pos (by omega), if_pos h2]
    · rw [if_neg (by omega), if_neg h2]
theorem sg_swap (x y : Int) : sg y x = -sg x y := by
  unfold sg
  by_cases h : x < y
  · rw [if_neg (by omega), if_pos h, if_pos h]; rfl
  · by_cases h2 : y < x
    · rw [if_pos h2, if_neg h, if_pos h2]
    · rw [if_neg h2, if_neg h, if_neg h, if_neg h2]; rfl
theorem sg_bd (x y : Int) : -1 ≤ sg x y ∧ sg x y ≤ 1 := by
  unfold sg
  split
  · omega
  · split <;> omega

/-! ### the key of a float -/
def fkey (f : Nat) : Int := if nan f then 18446744073709551615 else if rung f = 0 then 9223372036854775808 else if neg f then 18446744073709551615 - (f : Int) else (f : Int) + 9223372036854775808

theorem rv_iff (r s : Nat) : rv r < rv s ↔ r < s := by
  refine ⟨fun h => ?_, rv_lt⟩
  rcases Nat.lt_trichotomy r s with g | g | g
  · exact g
  · subst g; omega
  · have := rv_lt g; omega
theorem rv_pos (r : Nat) : 0 < rv r ↔ 0 < r := by
  have := rv_iff 0 r
  rwa [rv_zero] at this

theorem word_eq (f : Nat) (h : f < 2 ^ 64) : f = if neg f then 9223372036854775808 + rung f else rung f := by
  unfold neg rung
  by_cases g : f < 9223372036854775808
  · rw [if_neg (by simp; omega)]; omega
  · rw [if_pos (by simp; omega)]; omega
theorem rung_lt (f : Nat) : rung f < 9223372036854775808 := Nat.mod_lt _ (by decide)

theorem key_core (a b : Bool) (f g r s A B : Nat) (e1 : f = if a then 9223372036854775808 + r else r) (e2 : g = if b then 9223372036854775808 + s else s)
    (b1 : r < 9223372036854775808) (b2 : s < 9223372036854775808) (i1 : A < B ↔ r < s) (i2 : B < A ↔ s < r) (p1 : 0 < A ↔ 0 < r) (p2 : 0 < B ↔ 0 < s) :
    ((if r = 0 then (9223372036854775808 : Int) else if a then 18446744073709551615 - (f : Int) else (f : Int) + 9223372036854775808) < (if s = 0 then 9223372036854775808 else if b then 18446744073709551615 - (g : Int) else (g : Int) + 9223372036854775808))
      ↔ ((if a then -(A : Int) else (A : Int)) < (if b then -(B : Int) else (B : Int))) := by
  cases a <;> cases b <;> simp only [if_true, if_false, Bool.false_eq_true] at e1 e2 ⊢ <;> by_cases z1 : r = 0 <;> by_cases z2 : s = 0 <;> simp only [z1, z2, if_true, if_false] <;> omega

theorem key_lt {f g : Nat} (hf : f < 2 ^ 64) (hg : g < 2 ^ 64) (nf : nan f = false) (ng : nan g = false) : fkey f < fkey g ↔ ev f < ev g := by
  have h := key_core (neg f) (neg g) f g (rung f) (rung g) (rv (rung f)) (rv (rung g)) (word_eq f hf) (word_eq g hg) (rung_lt f) (rung_lt g) (rv_iff _ _) (rv_iff _ _) (rv_pos _) (rv_pos _)
  unfold fkey ev
  simp only [nf, ng, Bool.false_eq_true, if_false]
  exact h

theorem nan_core (a : Bool) (f r : Nat) (e1 : f = if a then 9223372036854775808 + r else r) (hr : r ≤ 9218868437227405312) :
    (if r = 0 then (9223372036854775808 : Int) else if a then 18446744073709551615 - (f : Int) else (f : Int) + 9223372036854775808) < 18446744073709551615 := by
  cases a <;> simp only [if_true, if_false, Bool.false_eq_true] at e1 ⊢ <;> by_cases z1 : r = 0 <;> simp only [z1, if_true, if_false] <;> omega

theorem key_nan {f g : Nat} (hf : f < 2 ^ 64) (nf : nan f = false) (ng : nan g = true) : fkey f < fkey g := by
  have hr : rung f ≤ 9218868437227405312 := by simpa [nan] using nf
  have h := nan_core (neg f) f (rung f) (word_eq f hf) hr
  unfold fkey
  simp only [nf, ng, Bool.false_eq_true, if_false, if_true]
  exact h

theorem sg_fkey {f g : Nat} (hf : f < 2 ^ 64) (hg : g < 2 ^ 64) : sg (fkey f) (fkey g) = fm f g := by
  unfold fm
  cases nf : nan f <;> cases ng : nan g
  · simp only [Bool.false_eq_true, if_false]
    have a1 := key_lt hf hg nf ng
    have a2 := key_lt hg hf ng nf
    unfold sg
    by_cases h : ev f < ev g
    · rw [if_pos (a1.2 h), if_pos h]
    · rw [if_neg (fun x => h (a1.1 x)), if_neg h]
      by_cases h2 : ev g < ev f
      · rw [if_pos (a2.2 h2), if_pos h2]
      · rw [if_neg (fun x => h2 (a2.1 x)), if_neg h2]
  · have := key_nan hf nf ng
    simp only [Bool.false_eq_true, if_false, if_true]
    unfold sg
    rw [if_pos this]
  · have := key_nan hg ng nf
    simp only [Bool.false_eq_true, if_false, if_true]
    unfold sg
    rw [if_neg (by omega), if_pos this]
  · simp only [if_true]
    have : fkey f = fkey g := by unfold fkey; rw [if_pos nf, if_pos ng]
    rw [this]; unfold sg
    rw [if_neg (by omega), if_neg (by omega)]
theorem fm_swap (f g : Nat) : fm g f = -fm f g := by
  unfold fm
  cases nf : nan f <;> cases ng : nan g <;> simp
  exact sg_swap _ _
theorem fm_bd (f g : Nat) : -1 ≤ fm f g ∧ fm f g ≤ 1 := by
  unfold fm
  have := sg_bd (ev f) (ev g)
  cases nf : nan f <;> cases ng : nan g <;> simp <;> omega

/-! ### the tests on the way to the key -/
theorem zeroTest {f : Nat} (nf : nan f = false) : (FloatKind.f64.format.order f 0 == some .eq) = decide (rung f = 0) := by
  rw [show FloatKind.f64.format.order f 0 = _ from Floats.order_ev nf rfl, Floats.cmp_int]
  have h0 : ev 0 = 0 := rfl
  rw [h0]
  have p1 := rv_pos (rung f)
  have e : ev f = if neg f then -(rv (rung f) : Int) else (rv (rung f) : Int) := rfl
  by_cases z : rung f = 0
  · have : ev f = 0 := by rw [e]; split <;> omega
    rw [this]; simp [z]
  · have hne : ev f ≠ 0 := by rw [e]; split <;> omega
    by_cases h : ev f < 0
    · rw [if_pos h]; simp [z]
    · rw [if_neg h, if_neg hne]; simp [z]
theorem negTest {f : Nat} (h : f < 2 ^ 64) : ((f : Int) / 9223372036854775808 == 1) = neg f := by
  unfold neg
  rw [Bool.eq_iff_iff]; simp; omega
theorem notKey {f : Nat} (h : f < 2 ^ 64) : bits .xor .u64 IntKind.u64.max (f : Int) = 18446744073709551615 - (f : Int) := by
  rw [show IntKind.u64.max = 18446744073709551615 from rfl, u64_xor _ _ (by omega) (by omega) (by omega) (by omega)]
  rw [show (18446744073709551615 : Int).toNat = 2 ^ 64 - 1 from rfl, Int.toNat_natCast, not_word f h]
  omega
theorem orKey {f : Nat} (h : f < 2 ^ 63) : bits .or .u64 (f : Int) 9223372036854775808 = (f : Int) + 9223372036854775808 := by
  rw [u64_or _ _ (by omega) (by omega) (by omega) (by omega)]
  rw [show (9223372036854775808 : Int).toNat = 2 ^ 63 from rfl, Int.toNat_natCast, or_top f h]
  omega
end Go.Proofs.Qxb6605616a
