/-
  THE WALK of zzBytesModel: an explicit loop over the bytes; of zzCmpInt64, zzFloatModel, and the bound on the total length.
-/
import Derived.Test.Qxb6605616aBytes
import Derived.Deep.QuietTactic
import Derived.BigQuiet
namespace Go.Proofs.Qxb6605616a
set_option linter.unusedVariables false
open Go.RowKit

set_option maxHeartbeats 400000 in
theorem model25_a (s t : ByteArray) (w : World) (hs : s.size ≤ maxLen) (ht : t.size ≤ maxLen) (hl : t.size < s.size) :
    Calls Try.prog 25 #[.string s, .string t] w fun e w' => e = .returned (.int .i64 (sm s t)) ∧ ∃ q, w' = w.drewN q := by
  unfold maxLen at hs ht
  go_enter Try.func25, Try.ntmps25
  go_wp2
  go_loopw [6] (fun i wr => ∃ k : Nat, k ≤ t.size ∧ i = .int .i64 k ∧ Hid (s.toList.take k = t.toList.take k) ∧ ∃ q, wr = w.drewN q) (fun i _ => t.size - (intOf i).toNat)
  case atStart => exact ⟨0, Nat.zero_le _, rfl, rfl, 0, rfl⟩
  case round =>
    obtain ⟨k, hk, rfl, hp, q, rfl⟩ := hrel
    by_cases hlt : k < t.size
    · have hlt1 : k < s.size := by omega
      have hlt2 : k < t.size := by omega
      have c1 : (k : Int) < (s.size : Int) := by omega
      have c2 : (k : Int) < (t.size : Int) := by omega
      by_cases h1 : s[k].toNat < t[k].toNat
      · have hr : Hid (sm s t = -1) := sm_lt hp.out hlt1 hlt2 h1
        go_wp2
        go_quiet (fail)
        go_wp2
        go_ret
        exact ⟨by rw [hr.out]; rfl, _, World.drewN_drewN _ _ _⟩
      · by_cases h2 : t[k].toNat < s[k].toNat
        · have hr : Hid (sm s t = 1) := sm_gt hp.out hlt1 hlt2 h2
          go_wp2
          go_quiet (fail)
          go_wp2
          go_quiet (fail)
          go_wp2
          go_ret
          exact ⟨by rw [hr.out]; rfl, by simp only [World.drewN_drewN]; exact ⟨_, rfl⟩⟩
        · have hr : Hid (s.toList.take (k + 1) = t.toList.take (k + 1)) := sm_next hp.out hlt1 hlt2 h1 h2
          go_wp2
          go_quiet (fail)
          go_wp2
          go_quiet (fail)
          go_wp2
          go_roundw
          case rel => exact ⟨k + 1, by omega, by go_num, hr, by (try simp only [World.drewN_drewN]); exact ⟨_, rfl⟩⟩
          case measure => simp [intOf]; omega
    · have hr : Hid (sm s t = if s.size < t.size then -1 else if t.size < s.size then 1 else 0) := sm_end (n := k) (by omega) hp.out
      go_wp2
      go_ret
      exact ⟨by rw [hr.out, if_neg (by omega), if_pos hl]; rfl, _, rfl⟩

set_option maxHeartbeats 400000 in
theorem model25_b (s t : ByteArray) (w : World) (hs : s.size ≤ maxLen) (ht : t.size ≤ maxLen) (hl : ¬ t.size < s.size) :
    Calls Try.prog 25 #[.string s, .string t] w fun e w' => e = .returned (.int .i64 (sm s t)) ∧ ∃ q, w' = w.drewN q := by
  unfold maxLen at hs ht
  go_enter Try.func25, Try.ntmps25
  go_wp2
  go_loopw [6] (fun i wr => ∃ k : Nat, k ≤ s.size ∧ i = .int .i64 k ∧ Hid (s.toList.take k = t.toList.take k) ∧ ∃ q, wr = w.drewN q) (fun i _ => s.size - (intOf i).toNat)
  case atStart => exact ⟨0, Nat.zero_le _, rfl, rfl, 0, rfl⟩
  case round =>
    obtain ⟨k, hk, rfl, hp, q, rfl⟩ := hrel
    by_cases hlt : k < s.size
    · have hlt1 : k < s.size := by omega
      have hlt2 : k < t.size := by omega
      have c1 : (k : Int) < (s.size : Int) := by omega
      have c2 : (k : Int) < (t.size : Int) := by omega
      by_cases h1 : s[k].toNat < t[k].toNat
      · have hr : Hid (sm s t = -1) := sm_lt hp.out hlt1 hlt2 h1
        go_wp2
        go_quiet (fail)
        go_wp2
        go_ret
        exact ⟨by rw [hr.out]; rfl, _, World.drewN_drewN _ _ _⟩
      · by_cases h2 : t[k].toNat < s[k].toNat
        · have hr : Hid (sm s t = 1) := sm_gt hp.out hlt1 hlt2 h2
          go_wp2
          go_quiet (fail)
          go_wp2
          go_quiet (fail)
          go_wp2
          go_ret
          exact ⟨by rw [hr.out]; rfl, by simp only [World.drewN_drewN]; exact ⟨_, rfl⟩⟩
        · have hr : Hid (s.toList.take (k + 1) = t.toList.take (k + 1)) := sm_next hp.out hlt1 hlt2 h1 h2
          go_wp2
          go_quiet (fail)
          go_wp2
          go_quiet (fail)
          go_wp2
          go_roundw
          case rel => exact ⟨k + 1, by omega, by go_num, hr, by (try simp only [World.drewN_drewN]); exact ⟨_, rfl⟩⟩
          case measure => simp [intOf]; omega
    · have hr : Hid (sm s t = if s.size < t.size then -1 else if t.size < s.size then 1 else 0) := sm_end (n := k) (by omega) hp.out
      by_cases h3 : s.size < t.size
      · go_wp2
        go_ret
        exact ⟨by rw [hr.out, if_pos h3]; rfl, _, rfl⟩
      · go_wp2
        go_ret
        exact ⟨by rw [hr.out, if_neg h3, if_neg hl]; rfl, _, rfl⟩

theorem model25 (s t : ByteArray) (w : World) (hs : s.size ≤ maxLen) (ht : t.size ≤ maxLen) :
    Calls Try.prog 25 #[.string s, .string t] w fun e w' => e = .returned (.int .i64 (sm s t)) ∧ ∃ q, w' = w.drewN q := by
  by_cases hl : t.size < s.size
  · exact model25_a s t w hs ht hl
  · exact model25_b s t w hs ht hl

theorem cmp21 (a b : Int) (w : World) : Calls Try.prog 21 #[.int .i64 a, .int .i64 b] w fun e w' => e = .returned (.int .i64 (sg a b)) ∧ w' = w := by
  unfold sg
  go_enter Try.func21, Try.ntmps21
  go_wp2
  all_goals (go_ret; exact ⟨rfl, rfl⟩)

theorem model23 (f g : Nat) (w : World) : Calls Try.prog 23 #[.float .f64 f, .float .f64 g] w fun e w' => e = .returned (.int .i64 (fm f g)) ∧ w' = w := by
  cases hf : Floats.nan f <;> cases hg : Floats.nan g
  · have n1 := numTest hf
    have n2 := numTest hg
    have l1 := ltTest hf hg
    have g1 := gtTest hf hg
    have hr : Hid (fm f g = sg (Floats.ev f) (Floats.ev g)) := by show fm f g = _; simp [fm, hf, hg]
    clear hf hg
    generalize Floats.ev f = a at *
    generalize Floats.ev g = b at *
    rw [hr.out]
    unfold sg
    clear hr
    go_enter Try.func23, Try.ntmps23
    go_wp2
    all_goals (go_ret; exact ⟨rfl, rfl⟩)
  · have hr : Hid (fm f g = -1) := by show fm f g = _; simp [fm, hf, hg]
    have n1 := numTest hf
    have n2 := nanTest hg
    clear hf hg
    go_enter Try.func23, Try.ntmps23
    go_wp2
    go_ret
    exact ⟨by rw [hr.out]; rfl, rfl⟩
  · have hr : Hid (fm f g = 1) := by show fm f g = _; simp [fm, hf, hg]
    have n1 := nanTest hf
    have n2 := numTest hg
    clear hf hg
    go_enter Try.func23, Try.ntmps23
    go_wp2
    go_ret
    exact ⟨by rw [hr.out]; rfl, rfl⟩
  · have hr : Hid (fm f g = 0) := by show fm f g = _; simp [fm, hf, hg]
    have n1 := nanTest hf
    have n2 := nanTest hg
    clear hf hg
    go_enter Try.func23, Try.ntmps23
    go_wp2
    go_ret
    exact ⟨by rw [hr.out]; rfl, rfl⟩

theorem bytes19_yes (x y : Int) (f g : Nat) (s t : ByteArray) (w : World) (h : s.size + t.size ≤ 1048576) :
    Calls Try.prog 19 #[.int .i64 x, .int .i64 y, .float .f64 f, .float .f64 g, .string s, .string t] w fun e w' => e = .returned (.bool true) ∧ w' = w := by
  go_enter Try.func19, Try.ntmps19
  go_wp2
  go_ret
  exact ⟨rfl, rfl⟩
theorem bytes19_no (x y : Int) (f g : Nat) (s t : ByteArray) (w : World) (h : 1048576 < s.size + t.size) :
    Calls Try.prog 19 #[.int .i64 x, .int .i64 y, .float .f64 f, .float .f64 g, .string s, .string t] w fun e w' => e = .returned (.bool false) ∧ w' = w := by
  go_enter Try.func19, Try.ntmps19
  go_wp2
  all_goals (go_ret; exact ⟨rfl, rfl⟩)
end Go.Proofs.Qxb6605616a
