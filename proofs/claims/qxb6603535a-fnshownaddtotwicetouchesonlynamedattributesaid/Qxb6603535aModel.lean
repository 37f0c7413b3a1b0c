import Derived.Test.Qxb6603535aAttr
namespace Go.Proofs.Qxb6603535a.Model
open Go.RowKit Go.Proofs.Qxb6603535a.Name Go.Proofs.Qxb6603535a.Attr
set_option linter.unusedVariables false

theorem letter_yes {n : Nat} (h : (97 ≤ n ∧ n ≤ 122) ∨ (65 ≤ n ∧ n ≤ 90)) : letterB n = true := by unfold letterB; rcases h with h | h <;> simp [h]
theorem letter_no {n : Nat} (h : ¬ ((97 ≤ n ∧ n ≤ 122) ∨ (65 ≤ n ∧ n ≤ 90))) : letterB n = false := by
  rw [Bool.eq_false_iff]; intro e; unfold letterB at e; simp at e; omega
theorem digit_yes {n : Nat} (h : 48 ≤ n ∧ n ≤ 57) : digitB n = true := by unfold digitB; simp [h]
theorem digit_no {n : Nat} (h : ¬ (48 ≤ n ∧ n ≤ 57)) : digitB n = false := by
  rw [Bool.eq_false_iff]; intro e; unfold digitB at e; simp at e; omega

set_option maxHeartbeats 400000 in
theorem letter_any (n : Nat) (hn : n ≤ 255) (w : World) : Calls Try.prog 11 #[.int .u8 n] w fun e w' => e = .returned (.bool (letterB n)) ∧ w' = w := by
  by_cases h : (97 ≤ n ∧ n ≤ 122) ∨ (65 ≤ n ∧ n ≤ 90)
  · rw [letter_yes h]
    rcases h with ⟨h1, h2⟩ | ⟨h1, h2⟩
    all_goals
      go_enter Try.func11, Try.ntmps11
      go_wp2_with fail
      go_ret
      exact ⟨ret_bool (by simp <;> omega), rfl⟩
  · rw [letter_no h]
    have h4 : n < 65 ∨ (90 < n ∧ n < 97) ∨ 122 < n := by omega
    clear h
    rcases h4 with h4 | ⟨h4, h5⟩ | h4
    all_goals
      go_enter Try.func11, Try.ntmps11
      go_wp2_with fail
      go_ret
      exact ⟨ret_bool (by simp <;> omega), rfl⟩

set_option maxHeartbeats 400000 in
theorem digit_any (n : Nat) (hn : n ≤ 255) (w : World) : Calls Try.prog 12 #[.int .u8 n] w fun e w' => e = .returned (.bool (digitB n)) ∧ w' = w := by
  by_cases h : 48 ≤ n ∧ n ≤ 57
  · rw [digit_yes h]
    obtain ⟨h1, h2⟩ := h
    go_enter Try.func12, Try.ntmps12
    go_wp2_with fail
    go_ret
    exact ⟨ret_bool (by simp <;> omega), rfl⟩
  · rw [digit_no h]
    have h4 : n < 48 ∨ 57 < n := by omega
    clear h
    rcases h4 with h4 | h4
    all_goals
      go_enter Try.func12, Try.ntmps12
      go_wp2_with fail
      go_ret
      exact ⟨ret_bool (by simp <;> omega), rfl⟩

set_option maxHeartbeats 400000 in
theorem bytes_any (s : ByteArray) (c : Int) (hs : s.size ≤ maxLen) (w : World) : Calls Try.prog 10 #[.string s, .int .u8 c] w fun e w' => e = .returned (.bool (decide (s.size ≤ 1048576))) ∧ w' = w := by
  unfold maxLen at hs
  by_cases h : 1048576 < s.size
  · rw [decide_eq_false (by omega)]
    go_enter Try.func10, Try.ntmps10
    go_wp2_with fail
    go_ret
    exact ⟨rfl, rfl⟩
  · rw [decide_eq_true (by omega)]
    go_enter Try.func10, Try.ntmps10
    go_wp2_with fail
    go_ret
    exact ⟨rfl, rfl⟩

set_option maxHeartbeats 400000 in
theorem bytes7_any (s : ByteArray) (hs : s.size ≤ maxLen) (w : World) : Calls Try.prog 7 #[.string s] w fun e w' => e = .returned (.bool (decide (s.size ≤ 1048576))) ∧ w' = w := by
  unfold maxLen at hs
  by_cases h : 1048576 < s.size
  · rw [decide_eq_false (by omega)]
    go_enter Try.func7, Try.ntmps7
    go_wp2_with fail
    go_ret
    exact ⟨rfl, rfl⟩
  · rw [decide_eq_true (by omega)]
    go_enter Try.func7, Try.ntmps7
    go_wp2_with fail
    go_ret
    exact ⟨rfl, rfl⟩
end Go.Proofs.Qxb6603535a.Model
