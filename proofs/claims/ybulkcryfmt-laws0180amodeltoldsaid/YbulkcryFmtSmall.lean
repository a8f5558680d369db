/-
  The small predicates of package syntax by their contracts: functions 6, 7, 10, 13, 11.
-/
import Derived.Test.YbulkcryFmtRows
import Derived.WalkKit
import Derived.WalkSpells
namespace Go.Proofs.YbulkcryFmt
open Go.RowKit

/-- A digit. -/
def digB (c : Int) : Bool := decide (48 ≤ c) && decide (c ≤ 57)
/-- A letter or the underscore. -/
def letB (c : Int) : Bool := (decide (97 ≤ c) && decide (c ≤ 122)) || (decide (65 ≤ c) && decide (c ≤ 90)) || decide (c = 95)
/-- A byte of a word. -/
def wrdB (c : Int) : Bool := letB c || digB c

theorem ret_bool {a b : Bool} (h : a = b) : Ending.returned (.bool a) = .returned (.bool b) := by rw [h]

theorem digit6 (c : Int) (w : World) : Calls Ybaf.prog 6 #[.int .u8 c] w fun e w' => e = .returned (.bool (digB c)) ∧ w' = w := by
  by_cases h1 : 48 ≤ c <;> by_cases h2 : c ≤ 57
  all_goals
    go_enter Ybaf.func6, Ybaf.ntmps6
    go_wp2
    go_ret
    exact ⟨ret_bool (by simp [digB, h1, h2]), rfl⟩

theorem digit10 (c : Int) (w : World) : Calls Ybaf.prog 10 #[.int .u8 c] w fun e w' => e = .returned (.bool (digB c)) ∧ w' = w := by
  by_cases h1 : 48 ≤ c <;> by_cases h2 : c ≤ 57
  all_goals
    go_enter Ybaf.func10, Ybaf.ntmps10
    go_wp2
    go_ret
    exact ⟨ret_bool (by simp [digB, h1, h2]), rfl⟩


set_option maxHeartbeats 800000 in
theorem letter13 (c : Int) (w : World) : Calls Ybaf.prog 13 #[.int .u8 c] w fun e w' => e = .returned (.bool (letB c)) ∧ w' = w := by
  have k1 : letB c = true ↔ (97 ≤ c ∧ c ≤ 122) ∨ (65 ≤ c ∧ c ≤ 90) ∨ c = 95 := by simp [letB]; omega
  rcases (show c < 65 ∨ (65 ≤ c ∧ c ≤ 90) ∨ (91 ≤ c ∧ c ≤ 94) ∨ c = 95 ∨ c = 96 ∨ (97 ≤ c ∧ c ≤ 122) ∨ 123 ≤ c by omega) with h | h | h | h | h | h | h
  all_goals
    have h' := h
    first
      | (have kk : letB c = true := k1.2 (by omega)
         have KK : Hid (letB c = true) := kk
         clear kk k1
         first | subst h | skip
         go_enter Ybaf.func13, Ybaf.ntmps13
         go_wp2
         go_ret
         exact ⟨ret_bool (by rw [KK.out]; first | done | (simp; done) | (simp; omega) | omega), rfl⟩)
      | (have kk : letB c = false := by
           rw [Bool.eq_false_iff]; intro hc; have := k1.1 hc; omega
         have KK : Hid (letB c = false) := kk
         clear kk k1
         first | subst h | skip
         go_enter Ybaf.func13, Ybaf.ntmps13
         go_wp2
         go_ret
         exact ⟨ret_bool (by rw [KK.out]; first | done | (simp; done) | (simp; omega) | omega), rfl⟩)

set_option maxHeartbeats 800000 in
theorem word7 (c : Int) (w : World) : Calls Ybaf.prog 7 #[.int .u8 c] w fun e w' => e = .returned (.bool (wrdB c)) ∧ w' = w := by
  have k1 : wrdB c = true ↔ (97 ≤ c ∧ c ≤ 122) ∨ (65 ≤ c ∧ c ≤ 90) ∨ c = 95 ∨ (48 ≤ c ∧ c ≤ 57) := by simp [wrdB, letB, digB]; omega
  rcases (show c < 48 ∨ (48 ≤ c ∧ c ≤ 57) ∨ (58 ≤ c ∧ c < 65) ∨ (65 ≤ c ∧ c ≤ 90) ∨ (91 ≤ c ∧ c ≤ 94) ∨ c = 95 ∨ c = 96 ∨ (97 ≤ c ∧ c ≤ 122) ∨ 123 ≤ c by omega) with h | h | h | h | h | h | h | h | h
  all_goals
    have h' := h
    first
      | (have kk : wrdB c = true := k1.2 (by omega)
         have KK : Hid (wrdB c = true) := kk
         clear kk k1
         first | subst h | skip
         go_enter Ybaf.func7, Ybaf.ntmps7
         go_wp2
         go_ret
         exact ⟨ret_bool (by rw [KK.out]; first | done | (simp; done) | (simp; omega) | omega), rfl⟩)
      | (have kk : wrdB c = false := by
           rw [Bool.eq_false_iff]; intro hc; have := k1.1 hc; omega
         have KK : Hid (wrdB c = false) := kk
         clear kk k1
         first | subst h | skip
         go_enter Ybaf.func7, Ybaf.ntmps7
         go_wp2
         go_ret
         exact ⟨ret_bool (by rw [KK.out]; first | done | (simp; done) | (simp; omega) | omega), rfl⟩)

theorem word11 (c : Int) (w : World) : Calls Ybaf.prog 11 #[.int .u8 c] w fun e w' => e = .returned (.bool (wrdB c)) ∧ w' = w := by
  cases h : letB c
  all_goals
    have KK : Hid (wrdB c = (letB c || digB c)) := rfl
    go_enter Ybaf.func11, Ybaf.ntmps11
    go_wp2_with (first | (go_at_call 13; refine (letter13 _ _).mono ?_; rintro e w' ⟨rfl, rfl⟩) | (go_at_call 10; refine (digit10 _ _).mono ?_; rintro e w' ⟨rfl, rfl⟩))
    go_ret
    exact ⟨ret_bool (by rw [KK.out]; simp [h]), rfl⟩

end Go.Proofs.YbulkcryFmt
