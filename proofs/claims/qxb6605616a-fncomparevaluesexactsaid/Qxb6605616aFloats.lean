/-
  THE PLAIN LAW ON float64 WORDS, over the model's own Ieee core: the order of two words is the order of their signed rungs' values; no Go in sight.
-/
import Ieee.Arith
namespace Go.Proofs.Qxb6605616a.Floats
open Ieee

/-- the magnitude of a rung, in units of the least place -/
def rv (r : Nat) : Nat := if r < 4503599627370496 then r else (4503599627370496 + r % 4503599627370496) * 2 ^ (r / 4503599627370496 - 1)

theorem rv_succ (r : Nat) : rv r < rv (r + 1) := by
  unfold rv
  by_cases h1 : r + 1 < 4503599627370496
  · rw [if_pos (by omega), if_pos h1]; omega
  · rw [if_neg h1]
    by_cases h2 : r < 4503599627370496
    · have e : r = 4503599627370495 := by omega
      subst e
      decide
    · rw [if_neg h2]
      by_cases h3 : (r + 1) % 4503599627370496 = 0
      · have e1 : (r + 1) / 4503599627370496 - 1 = (r / 4503599627370496 - 1) + 1 := by omega
        have e2 : r % 4503599627370496 = 4503599627370495 := by omega
        rw [h3, e1, e2, Nat.pow_succ]
        have hp : 0 < 2 ^ (r / 4503599627370496 - 1) := Nat.two_pow_pos _
        generalize 2 ^ (r / 4503599627370496 - 1) = p at *
        omega
      · have e1 : (r + 1) / 4503599627370496 = r / 4503599627370496 := by omega
        have e2 : (r + 1) % 4503599627370496 = r % 4503599627370496 + 1 := by omega
        rw [e1, e2]
        have hp : 0 < 2 ^ (r / 4503599627370496 - 1) := Nat.two_pow_pos _
        exact Nat.mul_lt_mul_of_pos_right (by omega) hp

theorem rv_lt {r s : Nat} (h : r < s) : rv r < rv s := by
  induction s with
  | zero => omega
  | succ s ih =>
    by_cases e : r = s
    · subst e; exact rv_succ r
    · exact Nat.lt_trans (ih (by omega)) (rv_succ s)

theorem rv_zero : rv 0 = 0 := rfl

/-- the rung, the sign, whether a word is a NaN, and its signed value -/
def rung (x : Nat) : Nat := x % 9223372036854775808
def neg (x : Nat) : Bool := x / 9223372036854775808 % 2 == 1
def nan (x : Nat) : Bool := decide (9218868437227405312 < rung x)
def ev (x : Nat) : Int := if neg x then -(rv (rung x) : Int) else (rv (rung x) : Int)

theorem read_double (x : Nat) : double.read x =
    if rung x < 4503599627370496 then .number (neg x) (rung x) (-1074)
    else if rung x < 9218868437227405312 then .number (neg x) (4503599627370496 + rung x % 4503599627370496) (-1074 + ((rung x / 4503599627370496 - 1 : Nat) : Int))
    else if rung x = 9218868437227405312 then .infinity (neg x)
    else .nan (neg x) (rung x - 9218868437227405312) := rfl

theorem signed_val (s : Bool) (m k : Nat) : signed s m k = if s then -((m * 2 ^ k : Nat) : Int) else ((m * 2 ^ k : Nat) : Int) := by
  unfold signed
  rw [Nat.shiftLeft_eq]

/-- Int's 'compare', written out -/
theorem cmp_int (a b : Int) : compare a b = if a < b then .lt else if a = b then .eq else .gt := rfl

theorem cmp_scale (a b : Int) (c : Nat) (hc : 0 < c) : compare (a * c) (b * c) = compare a b := by
  have hc' : (0 : Int) < (c : Int) := by omega
  rw [cmp_int, cmp_int]
  rcases Int.lt_trichotomy a b with h | h | h
  · rw [if_pos h, if_pos (Int.mul_lt_mul_of_pos_right h hc')]
  · subst h; rw [if_neg (by omega), if_pos rfl, if_neg (by omega), if_pos rfl]
  · have h' := Int.mul_lt_mul_of_pos_right h hc'
    rw [if_neg (by omega), if_neg (by omega), if_neg (by omega), if_neg (by omega)]

/-- a datum that is a number, by its value in units of the least place -/
theorem order_num (s t : Bool) (m n i j : Nat) :
    (Datum.number s m (-1074 + (i : Int))).order (Datum.number t n (-1074 + (j : Int)))
      = some (compare (if s then -((m * 2 ^ i : Nat) : Int) else ((m * 2 ^ i : Nat) : Int)) (if t then -((n * 2 ^ j : Nat) : Int) else ((n * 2 ^ j : Nat) : Int))) := by
  show some (compare (signed s m _) (signed t n _)) = _
  rw [signed_val, signed_val]
  generalize hb : min i j = b
  have e1 : (-1074 + (i : Int) - min (-1074 + (i : Int)) (-1074 + (j : Int))).toNat = i - b := by omega
  have e2 : (-1074 + (j : Int) - min (-1074 + (i : Int)) (-1074 + (j : Int))).toNat = j - b := by omega
  rw [e1, e2]
  have hi : 2 ^ i = 2 ^ (i - b) * 2 ^ b := by rw [← Nat.pow_add]; congr 1; omega
  have hj : 2 ^ j = 2 ^ (j - b) * 2 ^ b := by rw [← Nat.pow_add]; congr 1; omega
  rw [hi, hj, ← Nat.mul_assoc, ← Nat.mul_assoc]
  generalize m * 2 ^ (i - b) = A
  generalize n * 2 ^ (j - b) = B
  have hc : 0 < 2 ^ b := Nat.two_pow_pos _
  generalize 2 ^ b = c at *
  rw [← cmp_scale _ _ c hc]
  congr 2 <;> split <;> simp [Int.neg_mul]

theorem cmp_hi (s t : Bool) (a b : Nat) (h : a < b) : (if t then Ordering.gt else .lt) =
    if (if s then -(a : Int) else (a : Int)) < (if t then -(b : Int) else (b : Int)) then .lt else if (if s then -(a : Int) else (a : Int)) = (if t then -(b : Int) else (b : Int)) then .eq else .gt := by
  cases s <;> cases t <;> simp <;> (first | (rw [if_pos (by omega)]) | (rw [if_neg (by omega), if_neg (by omega)]) | omega)
theorem cmp_lo (s t : Bool) (a b : Nat) (h : b < a) : (if s then Ordering.lt else .gt) =
    if (if s then -(a : Int) else (a : Int)) < (if t then -(b : Int) else (b : Int)) then .lt else if (if s then -(a : Int) else (a : Int)) = (if t then -(b : Int) else (b : Int)) then .eq else .gt := by
  cases s <;> cases t <;> simp <;> (first | (rw [if_pos (by omega)]) | (rw [if_neg (by omega), if_neg (by omega)]) | omega)
theorem cmp_inf (s t : Bool) (a : Nat) (h : 0 < a) : compare t.toNat s.toNat =
    if (if s then -(a : Int) else (a : Int)) < (if t then -(a : Int) else (a : Int)) then .lt else if (if s then -(a : Int) else (a : Int)) = (if t then -(a : Int) else (a : Int)) then .eq else .gt := by
  cases s <;> cases t <;> simp
  · rw [if_neg (by omega), if_neg (by omega)]; rfl
  · rw [if_pos (by omega)]; rfl

/-- two words that are no NaNs stand as their values do -/
theorem order_ev {x y : Nat} (hx : nan x = false) (hy : nan y = false) : double.order x y = some (compare (ev x) (ev y)) := by
  have hx' : rung x ≤ 9218868437227405312 := by simpa [nan] using hx
  have hy' : rung y ≤ 9218868437227405312 := by simpa [nan] using hy
  -- each word as a number or an infinity
  have form : ∀ z, rung z ≤ 9218868437227405312 →
      (∃ m k : Nat, double.read z = .number (neg z) m (-1074 + (k : Int)) ∧ rv (rung z) = m * 2 ^ k ∧ rung z < 9218868437227405312)
      ∨ (double.read z = .infinity (neg z) ∧ rung z = 9218868437227405312) := by
    intro z hz
    rw [read_double]
    by_cases h1 : rung z < 4503599627370496
    · refine .inl ⟨rung z, 0, ?_, ?_, by omega⟩
      · rw [if_pos h1]; rfl
      · unfold rv; rw [if_pos h1]; simp
    · by_cases h2 : rung z < 9218868437227405312
      · refine .inl ⟨4503599627370496 + rung z % 4503599627370496, rung z / 4503599627370496 - 1, ?_, ?_, h2⟩
        · rw [if_neg h1, if_pos h2]
        · unfold rv; rw [if_neg h1]
      · have e : rung z = 9218868437227405312 := by omega
        exact .inr ⟨by rw [if_neg h1, if_neg h2, if_pos e], e⟩
  show (double.read x).order (double.read y) = _
  unfold ev
  have hpos : ∀ z, 0 ≤ (rv (rung z) : Int) := fun z => by omega
  rcases form x hx' with ⟨m, i, e1, v1, l1⟩ | ⟨e1, v1⟩ <;> rcases form y hy' with ⟨n, j, e2, v2, l2⟩ | ⟨e2, v2⟩ <;> rw [e1, e2]
  · rw [order_num, v1, v2]
  · have hl : rv (rung x) < rv (rung y) := rv_lt (by omega)
    show some (if neg y then Ordering.gt else .lt) = _
    rw [cmp_int]
    exact congrArg some (cmp_hi _ _ _ _ hl)
  · have hl : rv (rung y) < rv (rung x) := rv_lt (by omega)
    show some (if neg x then Ordering.lt else .gt) = _
    rw [cmp_int]
    exact congrArg some (cmp_lo _ _ _ _ hl)
  · have hl : rv 0 < rv (rung x) := rv_lt (by omega)
    rw [rv_zero] at hl
    rw [v2, v1]
    rw [v1] at hl
    show some (compare (neg y).toNat (neg x).toNat) = _
    generalize rv 9218868437227405312 = V at *
    rw [cmp_int]
    exact congrArg some (cmp_inf _ _ _ hl)

theorem order_nan {x y : Nat} (h : nan x = true ∨ nan y = true) : double.order x y = none := by
  have form : ∀ z, nan z = true → ∃ t, double.read z = .nan (neg z) t := by
    intro z hz
    have hz' : 9218868437227405312 < rung z := by simpa [nan] using hz
    rw [read_double, if_neg (by omega), if_neg (by omega), if_neg (by omega)]
    exact ⟨_, rfl⟩
  show (double.read x).order (double.read y) = _
  rcases h with h | h
  · obtain ⟨t, e⟩ := form x h
    rw [e]; rfl
  · obtain ⟨t, e⟩ := form y h
    rw [e]
    cases double.read x <;> rfl

end Go.Proofs.Qxb6605616a.Floats
