/-
  THE PLAIN LAW OF BYTE ORDER: what the first difference, or the lengths, say of 'bytesLess'.
-/
import Derived.Test.Qxb6605616aCmp
namespace Go.Proofs.Qxb6605616a

theorem bl_lt : ∀ (k : Nat) (S T : List UInt8), S.take k = T.take k → ∀ (a b : UInt8), S[k]? = some a → T[k]? = some b → a < b → Op.bytesLess S T = true
  | 0, [], _, _, a, b, h1, _, _ => by simp at h1
  | 0, _ :: _, [], _, a, b, _, h2, _ => by simp at h2
  | 0, x :: S, y :: T, _, a, b, h1, h2, h => by
    simp at h1 h2
    subst h1; subst h2
    simp [Op.bytesLess, h]
  | k + 1, [], _, _, a, b, h1, _, _ => by simp at h1
  | k + 1, _ :: _, [], _, a, b, _, h2, _ => by simp at h2
  | k + 1, x :: S, y :: T, hp, a, b, h1, h2, h => by
    simp at hp h1 h2
    obtain ⟨rfl, hp⟩ := hp
    simp [Op.bytesLess, bl_lt k S T hp a b h1 h2 h]

theorem bl_gt : ∀ (k : Nat) (S T : List UInt8), S.take k = T.take k → ∀ (a b : UInt8), S[k]? = some a → T[k]? = some b → b < a → Op.bytesLess S T = false ∧ (S == T) = false
  | 0, [], _, _, a, b, h1, _, _ => by simp at h1
  | 0, _ :: _, [], _, a, b, _, h2, _ => by simp at h2
  | 0, x :: S, y :: T, _, a, b, h1, h2, h => by
    simp at h1 h2
    subst h1; subst h2
    have h3 : ¬ x < y := fun g => by simp [UInt8.lt_iff_toNat_lt] at g h; omega
    have h4 : ¬ x = y := fun g => by subst g; simp at h
    simp [Op.bytesLess, h3, h4]
  | k + 1, [], _, _, a, b, h1, _, _ => by simp at h1
  | k + 1, _ :: _, [], _, a, b, _, h2, _ => by simp at h2
  | k + 1, x :: S, y :: T, hp, a, b, h1, h2, h => by
    simp at hp h1 h2
    obtain ⟨rfl, hp⟩ := hp
    obtain ⟨g1, g2⟩ := bl_gt k S T hp a b h1 h2 h
    have g3 : ¬ S = T := by simpa using g2
    simp [Op.bytesLess, g1, g3]

theorem bl_short : ∀ (S T : List UInt8), S.take S.length = T.take S.length → S.length < T.length → Op.bytesLess S T = true
  | [], [], _, h => by simp at h
  | [], _ :: _, _, _ => by simp [Op.bytesLess]
  | x :: S, [], _, h => by simp at h
  | x :: S, y :: T, hp, h => by
    simp at hp h
    obtain ⟨rfl, hp⟩ := hp
    simp [Op.bytesLess, bl_short S T (by simpa using hp) h]

theorem bl_long : ∀ (S T : List UInt8), S.take T.length = T.take T.length → T.length < S.length → Op.bytesLess S T = false ∧ (S == T) = false
  | [], [], _, h => by simp at h
  | _ :: _, [], _, _ => by simp [Op.bytesLess]
  | [], y :: T, _, h => by simp at h
  | x :: S, y :: T, hp, h => by
    simp at hp h
    obtain ⟨rfl, hp⟩ := hp
    obtain ⟨g1, g2⟩ := bl_long S T (by simpa using hp) h
    have g3 : ¬ S = T := by simpa using g2
    simp [Op.bytesLess, g1, g3]

/-! ### the same of two strings -/
theorem toList_size (s : ByteArray) : s.toList.length = s.size := by
  rw [ByteArray.toList_eq]; rfl
theorem at_eq (s : ByteArray) (k : Nat) (h : k < s.size) : s.toList[k]? = some s[k] := by
  rw [ByteArray.toList_eq, List.getElem?_eq_getElem (by simpa using h)]; rfl

theorem sm_lt {s t : ByteArray} {k : Nat} (hp : s.toList.take k = t.toList.take k) (h1 : k < s.size) (h2 : k < t.size) (h : s[k].toNat < t[k].toNat) : sm s t = -1 := by
  unfold sm
  rw [if_pos (bl_lt k _ _ hp _ _ (at_eq s k h1) (at_eq t k h2) (by rw [UInt8.lt_iff_toNat_lt]; omega))]
theorem sm_gt {s t : ByteArray} {k : Nat} (hp : s.toList.take k = t.toList.take k) (h1 : k < s.size) (h2 : k < t.size) (h : t[k].toNat < s[k].toNat) : sm s t = 1 := by
  obtain ⟨g1, g2⟩ := bl_gt k _ _ hp _ _ (at_eq s k h1) (at_eq t k h2) (by rw [UInt8.lt_iff_toNat_lt]; omega)
  unfold sm
  rw [g1, g2]; rfl
theorem sm_next {s t : ByteArray} {k : Nat} (hp : s.toList.take k = t.toList.take k) (h1 : k < s.size) (h2 : k < t.size) (h3 : ¬ s[k].toNat < t[k].toNat) (h4 : ¬ t[k].toNat < s[k].toNat) :
    s.toList.take (k + 1) = t.toList.take (k + 1) := by
  have e : s[k] = t[k] := by rw [← UInt8.toNat_inj]; omega
  rw [List.take_add_one, List.take_add_one, hp, at_eq s k h1, at_eq t k h2, e]
theorem sm_end {s t : ByteArray} {n : Nat} (hn : n = min s.size t.size) (hp : s.toList.take n = t.toList.take n) :
    sm s t = if s.size < t.size then -1 else if t.size < s.size then 1 else 0 := by
  have l1 := toList_size s
  have l2 := toList_size t
  unfold sm
  by_cases h : s.size < t.size
  · have e : n = s.toList.length := by omega
    rw [e] at hp
    rw [if_pos (bl_short _ _ hp (by omega)), if_pos h]
  · rw [if_neg h]
    by_cases h2 : t.size < s.size
    · have e : n = t.toList.length := by omega
      rw [e] at hp
      obtain ⟨g1, g2⟩ := bl_long _ _ hp (by omega)
      rw [g1, g2, if_pos h2]; rfl
    · have e : s.toList = t.toList := by
        rwa [List.take_of_length_le (by omega), List.take_of_length_le (by omega)] at hp
      rw [if_neg h2, e]
      have g : ∀ l : List UInt8, Op.bytesLess l l = false := by
        intro l
        induction l with
        | nil => rfl
        | cons x l ih => simp [Op.bytesLess, ih]
      rw [g]; simp
end Go.Proofs.Qxb6605616a
