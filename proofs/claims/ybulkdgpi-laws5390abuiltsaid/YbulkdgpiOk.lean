import Derived.Test.YbulkdgpiRows
import Derived.Test.YbulkdgpiPlain
import Derived.WalkKit
import Derived.ProofKit
import Derived.OpenShut
import Derived.WalkLawsBesides
namespace Go.Proofs.Ybulkdgpi
open Go.ChangeShapes Go.WideShapes Go.ChangeAt Go.RowKit

theorem ret_b {a b : Bool} (h : a = b) : Ending.returned (.bool a) = .returned (.bool b) := by rw [h]

set_option maxHeartbeats 1600000 in
theorem ok_true (c : Int) (h : (48 ≤ c ∧ c ≤ 57) ∨ (97 ≤ c ∧ c ≤ 122) ∨ (65 ≤ c ∧ c ≤ 90) ∨ c = 43 ∨ c = 45 ∨ c = 46 ∨ c = 95) (w : World) :
    Calls Yba.prog 6 #[.int .u8 c] w fun e w' => e = .returned (.bool true) ∧ w = w' := by
  rcases h with ⟨h1, h2⟩ | ⟨h1, h2⟩ | ⟨h1, h2⟩ | rfl | rfl | rfl | rfl
  all_goals
    go_enter Yba.func6, Yba.ntmps6
    go_wp2
    go_ret
    exact ⟨rfl, rfl⟩
set_option maxHeartbeats 1600000 in
theorem ok_false (c : Int) (h : (0 ≤ c ∧ c ≤ 42) ∨ c = 44 ∨ c = 47 ∨ (58 ≤ c ∧ c ≤ 64) ∨ (91 ≤ c ∧ c ≤ 94) ∨ c = 96 ∨ (123 ≤ c ∧ c ≤ 255)) (w : World) :
    Calls Yba.prog 6 #[.int .u8 c] w fun e w' => e = .returned (.bool false) ∧ w = w' := by
  have hq : (c == 43 || c == 45 || c == 46 || c == 95) = false := by simp; omega
  have HQ : Hid ((c == 43 || c == 45 || c == 46 || c == 95) = false) := hq
  clear hq
  rcases h with ⟨h1, h2⟩ | rfl | rfl | ⟨h1, h2⟩ | ⟨h1, h2⟩ | rfl | ⟨h1, h2⟩
  all_goals
    go_enter Yba.func6, Yba.ntmps6
    go_wp2
    go_ret
    exact ⟨ret_b HQ.out, rfl⟩

/-- 'zzs5390aok' in one word. -/
theorem ok_any (c : Int) (h0 : 0 ≤ c) (h1 : c ≤ 255) (w : World) :
    Calls Yba.prog 6 #[.int .u8 c] w fun e w' => e = .returned (.bool (okB c)) ∧ w = w' := by
  rcases ways c h0 h1 with ⟨h, k⟩ | ⟨h, k⟩
  · rw [h]; exact ok_true c k w
  · rw [h]; exact ok_false c k w

/-! 'isDigit', 'isASCIILetter'. -/
def digB (c : Int) : Bool := decide (48 ≤ c ∧ c ≤ 57)
def letB (c : Int) : Bool := decide ((97 ≤ c ∧ c ≤ 122) ∨ (65 ≤ c ∧ c ≤ 90))
set_option maxHeartbeats 1600000 in
theorem dig_any (c : Int) (_h0 : 0 ≤ c) (_h1 : c ≤ 255) (w : World) :
    Calls Yba.prog 7 #[.int .u8 c] w fun e w' => e = .returned (.bool (digB c)) ∧ w = w' := by
  have H : Hid (digB c = decide (48 ≤ c ∧ c ≤ 57)) := rfl
  rcases (show c < 48 ∨ (48 ≤ c ∧ c ≤ 57) ∨ 57 < c from by omega) with h | ⟨h1, h2⟩ | h
  · rw [H.out, show decide (48 ≤ c ∧ c ≤ 57) = false by simp; omega]
    go_enter Yba.func7, Yba.ntmps7
    go_wp2
    go_ret
    exact ⟨rfl, rfl⟩
  · rw [H.out, show decide (48 ≤ c ∧ c ≤ 57) = true by simp; omega]
    go_enter Yba.func7, Yba.ntmps7
    go_wp2
    go_ret
    exact ⟨ret_b (by simp <;> omega), rfl⟩
  · rw [H.out, show decide (48 ≤ c ∧ c ≤ 57) = false by simp; omega]
    go_enter Yba.func7, Yba.ntmps7
    go_wp2
    go_ret
    exact ⟨ret_b (by simp <;> omega), rfl⟩
set_option maxHeartbeats 1600000 in
theorem let_any (c : Int) (_h0 : 0 ≤ c) (_h1 : c ≤ 255) (w : World) :
    Calls Yba.prog 8 #[.int .u8 c] w fun e w' => e = .returned (.bool (letB c)) ∧ w = w' := by
  rcases (show ((97 ≤ c ∧ c ≤ 122) ∨ (65 ≤ c ∧ c ≤ 90)) ∨ ((0 ≤ c ∧ c ≤ 64) ∨ (91 ≤ c ∧ c ≤ 96) ∨ (123 ≤ c ∧ c ≤ 255)) from by omega) with h | h
  · have H : letB c = true := by simp [letB]; omega
    rw [H]; clear H
    rcases h with ⟨h1, h2⟩ | ⟨h1, h2⟩
    all_goals
      go_enter Yba.func8, Yba.ntmps8
      go_wp2
      go_ret
      exact ⟨ret_b (by simp <;> omega), rfl⟩
  · have H : letB c = false := by simp [letB]; omega
    rw [H]; clear H
    rcases h with ⟨h1, h2⟩ | ⟨h1, h2⟩ | ⟨h1, h2⟩
    all_goals
      go_enter Yba.func8, Yba.ntmps8
      go_wp2
      go_ret
      exact ⟨ret_b (by simp <;> omega), rfl⟩
end Go.Proofs.Ybulkdgpi
