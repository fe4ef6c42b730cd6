/-
  THE STRING OF A PARTICIPANT, AND THE LAW's OWN SCANS FOR SPACES, BY THEIR CONTRACTS; and what they say, as plain lists of bytes.
-/
import Derived.Test.Qxb6605742aProg
import Derived.WalkKit
import Derived.WalkLawsBesides
namespace Go.Proofs.Qxb6605742a
open Go.RowKit

/-- how many spaces -/
def sp (s : ByteArray) : Nat := s.data.toList.count 32
/-- process, one space, nonce -/
def sub (p q : ByteArray) : ByteArray := p ++ ⟨#[32]⟩ ++ q

theorem take_snoc (s : ByteArray) (k : Nat) (h : k < s.size) : s.data.toList.take (k + 1) = s.data.toList.take k ++ [s[k]] := by
  rw [List.take_succ_eq_append_getElem (by simpa using h)]; rfl
theorem sp_full (s : ByteArray) (k : Nat) (h : ¬ k < s.size) : (s.data.toList.take k).count 32 = sp s := by
  rw [List.take_of_length_le (by simpa using h)]; rfl
theorem sp_hit (s : ByteArray) (k : Nat) (h : k < s.size) (g : ((s[k].toNat : Int) == 32) = true) : (s.data.toList.take (k + 1)).count 32 = (s.data.toList.take k).count 32 + 1 := by
  have e : s[k] = 32 := by rw [← UInt8.toNat_inj]; have := eq_of_beq g; show s[k].toNat = 32; omega
  rw [take_snoc s k h, List.count_append, e]; rfl
theorem sp_miss (s : ByteArray) (k : Nat) (h : k < s.size) (g : ((s[k].toNat : Int) == 32) = false) : (s.data.toList.take (k + 1)).count 32 = (s.data.toList.take k).count 32 := by
  have e : s[k] ≠ 32 := fun e => by rw [e] at g; simp at g
  rw [take_snoc s k h, List.count_append, List.count_singleton, if_neg (by simpa using e)]; rfl

set_option maxHeartbeats 400000 in
theorem spaces20 (s : ByteArray) (w : World) (hs : s.size ≤ maxLen) :
    Calls Try.prog 20 #[.string s] w fun e w' => e = .returned (.int .i64 (sp s)) ∧ w' = w := by
  unfold maxLen at hs
  go_enter Try.func20, Try.ntmps20
  go_wp2
  go_loop [3, 4] (fun c i => ∃ k n : Nat, k ≤ s.size ∧ n ≤ k ∧ i = .int .i64 k ∧ c = .int .i64 n ∧ Hid (n = (s.data.toList.take k).count 32)) (fun _ i => s.size - (intOf i).toNat)
  case atStart => exact ⟨0, 0, Nat.zero_le _, Nat.le_refl _, rfl, rfl, rfl⟩
  case round =>
    obtain ⟨k, n, hk, hn, rfl, rfl, hc⟩ := hrel
    by_cases hlt : k < s.size
    · cases g : ((s[k].toNat : Int) == 32)
      · have HM : Hid ((s.data.toList.take (k + 1)).count 32 = (s.data.toList.take k).count 32) := sp_miss s k hlt g
        go_wp2
        go_round
        case rel => exact ⟨k + 1, n, by omega, by omega, by go_num, rfl, (by rw [hc.out, HM.out] : n = (s.data.toList.take (k + 1)).count 32)⟩
        case measure => simp [intOf]; omega
      · have HM : Hid ((s.data.toList.take (k + 1)).count 32 = (s.data.toList.take k).count 32 + 1) := sp_hit s k hlt g
        go_wp2
        go_round
        case rel => exact ⟨k + 1, n + 1, by omega, by omega, by go_num, by go_num, (by rw [hc.out, HM.out] : n + 1 = (s.data.toList.take (k + 1)).count 32)⟩
        case measure => simp [intOf]; omega
    · have HM : Hid (n = sp s) := (hc.out.trans (sp_full s k hlt) : n = sp s)
      go_wp2
      go_ret
      exact ⟨congrArg (fun z : Nat => Ending.returned (Value.int .i64 (z : Int))) HM.out, rfl⟩

set_option maxHeartbeats 400000 in
theorem make19 (p q : ByteArray) (w : World) (h : p.size + q.size ≤ 1048576) :
    Calls Try.prog 19 #[.string p, .string q] w fun e w' => e = .returned (.string (sub p q)) ∧ w' = w.alloc (.cells #[.string p, .string q] 49) := by
  go_enter Try.func19, Try.ntmps19
  go_wp2
  go_ret
  exact ⟨rfl, rfl⟩

/-! ### plain lists -/
theorem sub_list (p q : ByteArray) : (sub p q).data.toList = p.data.toList ++ 32 :: q.data.toList := by
  unfold sub
  simp [ByteArray.data_append]
theorem sub_size (p q : ByteArray) : (sub p q).size = p.size + 1 + q.size := by
  have h := congrArg List.length (sub_list p q)
  have e : ∀ s : ByteArray, s.data.toList.length = s.size := fun s => rfl
  rw [List.length_append, List.length_cons, e, e, e] at h
  omega
theorem sub_sp (p q : ByteArray) : sp (sub p q) = sp p + sp q + 1 := by
  unfold sp
  rw [sub_list, List.count_append, List.count_cons_self]
  omega

/-- lists cut at the first 32 -/
theorem cut_eq : ∀ (P Q P' Q' : List UInt8), P.count 32 = 0 → P'.count 32 = 0 → P ++ 32 :: Q = P' ++ 32 :: Q' → P = P' ∧ Q = Q'
  | [], Q, [], Q', _, _, h => by simpa using h
  | [], Q, x :: P', Q', _, h2, h => by
    simp only [List.nil_append, List.cons_append, List.cons.injEq] at h
    rw [← h.1] at h2; simp at h2
  | x :: P, Q, [], Q', h1, _, h => by
    simp only [List.nil_append, List.cons_append, List.cons.injEq] at h
    rw [h.1] at h1; simp at h1
  | x :: P, Q, y :: P', Q', h1, h2, h => by
    simp only [List.cons_append, List.cons.injEq] at h
    obtain ⟨rfl, h⟩ := h
    have e1 : P.count 32 = 0 := by rw [List.count_cons] at h1; omega
    have e2 : P'.count 32 = 0 := by rw [List.count_cons] at h2; omega
    obtain ⟨rfl, rfl⟩ := cut_eq P Q P' Q' e1 e2 h
    exact ⟨rfl, rfl⟩
theorem apart_law (p q p' q' : ByteArray) (h1 : sp p = 0) (h2 : sp p' = 0) : ((sub p q).toList == (sub p' q').toList) = ((p.toList == p'.toList) && (q.toList == q'.toList)) := by
  simp only [ByteArray.toList_eq, sub_list]
  rw [Bool.eq_iff_iff, Bool.and_eq_true, beq_iff_eq, beq_iff_eq, beq_iff_eq]
  refine ⟨fun h => cut_eq _ _ _ _ h1 h2 h, fun h => ?_⟩
  rw [h.1, h.2]
end Go.Proofs.Qxb6605742a
