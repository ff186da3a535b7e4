/-
  The small functions: isDigit (10), inName (9), zzTagByte (8), the bound on the lengths (4).
-/
import Derived.Test.Qxb6618462aRows
import Derived.WalkKit
import Derived.WalkSpells
import Derived.WalkLawsBesides
namespace Go.Proofs.Qxb6618462a
open Go.RowKit

def digB (c : Int) : Bool := decide (48 ≤ c ∧ c ≤ 57)
def tagB (c : Int) : Bool := decide ((97 ≤ c ∧ c ≤ 122) ∨ (65 ≤ c ∧ c ≤ 90) ∨ (48 ≤ c ∧ c ≤ 57) ∨ c = 95 ∨ 128 ≤ c)
theorem ret_bool {a b : Bool} (h : a = b) : Ending.returned (.bool a) = .returned (.bool b) := by rw [h]

set_option maxHeartbeats 400000 in
theorem digit_any (c : Int) (w : World) : Calls Try.prog 10 #[.int .u8 c] w fun e w' => e = .returned (.bool (digB c)) ∧ w' = w := by
  go_enter Try.func10, Try.ntmps10
  go_wp2
  all_goals
    go_ret
    exact ⟨ret_bool (by unfold digB; simp; try omega), rfl⟩

set_option maxHeartbeats 400000 in
theorem tag_any (c : Int) (w : World) : Calls Try.prog 8 #[.int .u8 c] w fun e w' => e = .returned (.bool (tagB c)) ∧ w' = w := by
  by_cases e : c = 95
  · subst e
    go_enter Try.func8, Try.ntmps8
    go_wp2
    go_ret
    exact ⟨rfl, rfl⟩
  · have e1 : (c == 95) = false := by simpa using e
    go_enter Try.func8, Try.ntmps8
    go_wp2
    all_goals
      go_ret
      exact ⟨ret_bool (by unfold tagB; rw [Bool.eq_iff_iff]; simp only [decide_eq_true_eq, true_iff]; omega), rfl⟩

set_option maxHeartbeats 400000 in
theorem name_any (c : Int) (w : World) : Calls Try.prog 9 #[.int .u8 c] w fun e w' => e = .returned (.bool (tagB c)) ∧ w' = w := by
  by_cases e : c = 95
  · subst e
    go_enter Try.func9, Try.ntmps9
    go_wp2
    go_ret
    exact ⟨rfl, rfl⟩
  · have e1 : (c == 95) = false := by simpa using e
    go_enter Try.func9, Try.ntmps9
    go_wp2
    all_goals
      go_ret
      exact ⟨ret_bool (by unfold tagB; rw [Bool.eq_iff_iff]; simp only [decide_eq_true_eq, true_iff, Bool.or_eq_true]; omega), rfl⟩

/-- The bound on the two lengths. -/
theorem bytes_any (a b : ByteArray) (w : World) (ha : a.size ≤ maxLen) (hb : b.size ≤ maxLen) : Calls Try.prog 4 #[.string a, .string b] w fun e w' => e = .returned (.bool (decide (a.size + b.size ≤ 1048576))) ∧ w' = w := by
  unfold maxLen at ha hb
  go_enter Try.func4, Try.ntmps4
  go_wp2
  all_goals
    go_ret
    exact ⟨ret_bool (by rw [Bool.eq_iff_iff]; simp only [decide_eq_true_eq, true_iff, Bool.false_eq_true, false_iff]; omega), rfl⟩
end Go.Proofs.Qxb6618462a
