import Derived.Test.Qxb6602723aRows
import Derived.WalkKit
import Derived.Below
import Derived.WalkSpells
import Derived.WalkLawsBesides
namespace Go.Proofs.Qxb6602723a
open Go.RowKit
set_option linter.unusedVariables false

def rule (s c : Int) : Int :=
  if s = 0 ∨ s = 1 ∨ s = 10 then (if c = 45 ∧ s ≠ 10 then 10 else if c = 48 then 11 else if 48 ≤ c ∧ c ≤ 57 then 12 else 18)
  else if s = 11 ∨ s = 12 then (if (48 ≤ c ∧ c ≤ 57) ∧ s = 12 then 12 else if c = 46 then 13 else if c = 101 ∨ c = 69 then 15 else 18)
  else if s = 13 ∨ s = 14 then (if 48 ≤ c ∧ c ≤ 57 then 14 else if (c = 101 ∨ c = 69) ∧ s = 14 then 15 else 18)
  else if s = 15 then (if c = 43 ∨ c = 45 then 16 else if 48 ≤ c ∧ c ≤ 57 then 17 else 18)
  else if s = 16 ∨ s = 17 then (if 48 ≤ c ∧ c ≤ 57 then 17 else 18)
  else 18

theorem ret_int {k : IntKind} {a b : Int} (h : a = b) : Ending.returned (.int k a) = .returned (.int k b) := by rw [h]
theorem ret_bool {a b : Bool} (h : a = b) : Ending.returned (.bool a) = .returned (.bool b) := by rw [h]

theorem chars (c : Int) : c = 45 ∨ c = 48 ∨ (49 ≤ c ∧ c ≤ 57) ∨ c = 46 ∨ c = 101 ∨ c = 69 ∨ c = 43 ∨ (c ≠ 45 ∧ c ≠ 46 ∧ c ≠ 101 ∧ c ≠ 69 ∧ c ≠ 43 ∧ c < 48) ∨ (c ≠ 101 ∧ c ≠ 69 ∧ 57 < c) := by omega

set_option maxHeartbeats 1000000 in
theorem rule_0 (c : Int) (w : World) : Calls Try.prog 18 #[.int .u8 0, .int .u8 c] w fun e w' => e = .returned (.int .u8 (rule 0 c)) ∧ w = w' := by
  rcases chars c with rfl | rfl | ⟨h1, h2⟩ | rfl | rfl | rfl | rfl | ⟨h1, h2, h3, h4, h5, h6⟩ | ⟨h1, h2, h3⟩
  · go_enter Try.func18, Try.ntmps18
    go_wp2
    go_ret
    exact ⟨ret_int (by unfold rule; repeat (first | rw [if_pos (by omega)] | rw [if_neg (by omega)])), rfl⟩
  · go_enter Try.func18, Try.ntmps18
    go_wp2
    go_ret
    exact ⟨ret_int (by unfold rule; repeat (first | rw [if_pos (by omega)] | rw [if_neg (by omega)])), rfl⟩
  · have e45 : (c == 45) = false := beq_eq_false_iff_ne.2 (by omega)
    have e46 : (c == 46) = false := beq_eq_false_iff_ne.2 (by omega)
    have e48 : (c == 48) = false := beq_eq_false_iff_ne.2 (by omega)
    have e101 : (c == 101) = false := beq_eq_false_iff_ne.2 (by omega)
    have e69 : (c == 69) = false := beq_eq_false_iff_ne.2 (by omega)
    have e43 : (c == 43) = false := beq_eq_false_iff_ne.2 (by omega)
    have d1 : decide (48 ≤ c) = true := decide_eq_true (by omega)
    have d2 : decide (c ≤ 57) = true := decide_eq_true (by omega)
    go_enter Try.func18, Try.ntmps18
    go_wp2
    go_ret
    exact ⟨ret_int (by unfold rule; repeat (first | rw [if_pos (by omega)] | rw [if_neg (by omega)])), rfl⟩
  · go_enter Try.func18, Try.ntmps18
    go_wp2
    go_ret
    exact ⟨ret_int (by unfold rule; repeat (first | rw [if_pos (by omega)] | rw [if_neg (by omega)])), rfl⟩
  · go_enter Try.func18, Try.ntmps18
    go_wp2
    go_ret
    exact ⟨ret_int (by unfold rule; repeat (first | rw [if_pos (by omega)] | rw [if_neg (by omega)])), rfl⟩
  · go_enter Try.func18, Try.ntmps18
    go_wp2
    go_ret
    exact ⟨ret_int (by unfold rule; repeat (first | rw [if_pos (by omega)] | rw [if_neg (by omega)])), rfl⟩
  · go_enter Try.func18, Try.ntmps18
    go_wp2
    go_ret
    exact ⟨ret_int (by unfold rule; repeat (first | rw [if_pos (by omega)] | rw [if_neg (by omega)])), rfl⟩
  · have e45 : (c == 45) = false := beq_eq_false_iff_ne.2 (by omega)
    have e46 : (c == 46) = false := beq_eq_false_iff_ne.2 (by omega)
    have e48 : (c == 48) = false := beq_eq_false_iff_ne.2 (by omega)
    have e101 : (c == 101) = false := beq_eq_false_iff_ne.2 (by omega)
    have e69 : (c == 69) = false := beq_eq_false_iff_ne.2 (by omega)
    have e43 : (c == 43) = false := beq_eq_false_iff_ne.2 (by omega)
    have d1 : decide (48 ≤ c) = false := decide_eq_false (by omega)
    go_enter Try.func18, Try.ntmps18
    go_wp2
    go_ret
    exact ⟨ret_int (by unfold rule; repeat (first | rw [if_pos (by omega)] | rw [if_neg (by omega)])), rfl⟩
  · have e45 : (c == 45) = false := beq_eq_false_iff_ne.2 (by omega)
    have e46 : (c == 46) = false := beq_eq_false_iff_ne.2 (by omega)
    have e48 : (c == 48) = false := beq_eq_false_iff_ne.2 (by omega)
    have e101 : (c == 101) = false := beq_eq_false_iff_ne.2 (by omega)
    have e69 : (c == 69) = false := beq_eq_false_iff_ne.2 (by omega)
    have e43 : (c == 43) = false := beq_eq_false_iff_ne.2 (by omega)
    have d1 : decide (48 ≤ c) = true := decide_eq_true (by omega)
    have d2 : decide (c ≤ 57) = false := decide_eq_false (by omega)
    go_enter Try.func18, Try.ntmps18
    go_wp2
    go_ret
    exact ⟨ret_int (by unfold rule; repeat (first | rw [if_pos (by omega)] | rw [if_neg (by omega)])), rfl⟩

set_option maxHeartbeats 1000000 in
theorem rule_1 (c : Int) (w : World) : Calls Try.prog 18 #[.int .u8 1, .int .u8 c] w fun e w' => e = .returned (.int .u8 (rule 1 c)) ∧ w = w' := by
  rcases chars c with rfl | rfl | ⟨h1, h2⟩ | rfl | rfl | rfl | rfl | ⟨h1, h2, h3, h4, h5, h6⟩ | ⟨h1, h2, h3⟩
  · go_enter Try.func18, Try.ntmps18
    go_wp2
    go_ret
    exact ⟨ret_int (by unfold rule; repeat (first | rw [if_pos (by omega)] | rw [if_neg (by omega)])), rfl⟩
  · go_enter Try.func18, Try.ntmps18
    go_wp2
    go_ret
    exact ⟨ret_int (by unfold rule; repeat (first | rw [if_pos (by omega)] | rw [if_neg (by omega)])), rfl⟩
  · have e45 : (c == 45) = false := beq_eq_false_iff_ne.2 (by omega)
    have e46 : (c == 46) = false := beq_eq_false_iff_ne.2 (by omega)
    have e48 : (c == 48) = false := beq_eq_false_iff_ne.2 (by omega)
    have e101 : (c == 101) = false := beq_eq_false_iff_ne.2 (by omega)
    have e69 : (c == 69) = false := beq_eq_false_iff_ne.2 (by omega)
    have e43 : (c == 43) = false := beq_eq_false_iff_ne.2 (by omega)
    have d1 : decide (48 ≤ c) = true := decide_eq_true (by omega)
    have d2 : decide (c ≤ 57) = true := decide_eq_true (by omega)
    go_enter Try.func18, Try.ntmps18
    go_wp2
    go_ret
    exact ⟨ret_int (by unfold rule; repeat (first | rw [if_pos (by omega)] | rw [if_neg (by omega)])), rfl⟩
  · go_enter Try.func18, Try.ntmps18
    go_wp2
    go_ret
    exact ⟨ret_int (by unfold rule; repeat (first | rw [if_pos (by omega)] | rw [if_neg (by omega)])), rfl⟩
  · go_enter Try.func18, Try.ntmps18
    go_wp2
    go_ret
    exact ⟨ret_int (by unfold rule; repeat (first | rw [if_pos (by omega)] | rw [if_neg (by omega)])), rfl⟩
  · go_enter Try.func18, Try.ntmps18
    go_wp2
    go_ret
    exact ⟨ret_int (by unfold rule; repeat (first | rw [if_pos (by omega)] | rw [if_neg (by omega)])), rfl⟩
  · go_enter Try.func18, Try.ntmps18
    go_wp2
    go_ret
    exact ⟨ret_int (by unfold rule; repeat (first | rw [if_pos (by omega)] | rw [if_neg (by omega)])), rfl⟩
  · have e45 : (c == 45) = false := beq_eq_false_iff_ne.2 (by omega)
    have e46 : (c == 46) = false := beq_eq_false_iff_ne.2 (by omega)
    have e48 : (c == 48) = false := beq_eq_false_iff_ne.2 (by omega)
    have e101 : (c == 101) = false := beq_eq_false_iff_ne.2 (by omega)
    have e69 : (c == 69) = false := beq_eq_false_iff_ne.2 (by omega)
    have e43 : (c == 43) = false := beq_eq_false_iff_ne.2 (by omega)
    have d1 : decide (48 ≤ c) = false := decide_eq_false (by omega)
    go_enter Try.func18, Try.ntmps18
    go_wp2
    go_ret
    exact ⟨ret_int (by unfold rule; repeat (first | rw [if_pos (by omega)] | rw [if_neg (by omega)])), rfl⟩
  · have e45 : (c == 45) = false := beq_eq_false_iff_ne.2 (by omega)
    have e46 : (c == 46) = false := beq_eq_false_iff_ne.2 (by omega)
    have e48 : (c == 48) = false := beq_eq_false_iff_ne.2 (by omega)
    have e101 : (c == 101) = false := beq_eq_false_iff_ne.2 (by omega)
    have e69 : (c == 69) = false := beq_eq_false_iff_ne.2 (by omega)
    have e43 : (c == 43) = false := beq_eq_false_iff_ne.2 (by omega)
    have d1 : decide (48 ≤ c) = true := decide_eq_true (by omega)
    have d2 : decide (c ≤ 57) = false := decide_eq_false (by omega)
    go_enter Try.func18, Try.ntmps18
    go_wp2
    go_ret
    exact ⟨ret_int (by unfold rule; repeat (first | rw [if_pos (by omega)] | rw [if_neg (by omega)])), rfl⟩

set_option maxHeartbeats 1000000 in
theorem rule_10 (c : Int) (w : World) : Calls Try.prog 18 #[.int .u8 10, .int .u8 c] w fun e w' => e = .returned (.int .u8 (rule 10 c)) ∧ w = w' := by
  rcases chars c with rfl | rfl | ⟨h1, h2⟩ | rfl | rfl | rfl | rfl | ⟨h1, h2, h3, h4, h5, h6⟩ | ⟨h1, h2, h3⟩
  · go_enter Try.func18, Try.ntmps18
    go_wp2
    go_ret
    exact ⟨ret_int (by unfold rule; repeat (first | rw [if_pos (by omega)] | rw [if_neg (by omega)])), rfl⟩
  · go_enter Try.func18, Try.ntmps18
    go_wp2
    go_ret
    exact ⟨ret_int (by unfold rule; repeat (first | rw [if_pos (by omega)] | rw [if_neg (by omega)])), rfl⟩
  · have e45 : (c == 45) = false := beq_eq_false_iff_ne.2 (by omega)
    have e46 : (c == 46) = false := beq_eq_false_iff_ne.2 (by omega)
    have e48 : (c == 48) = false := beq_eq_false_iff_ne.2 (by omega)
    have e101 : (c == 101) = false := beq_eq_false_iff_ne.2 (by omega)
    have e69 : (c == 69) = false := beq_eq_false_iff_ne.2 (by omega)
    have e43 : (c == 43) = false := beq_eq_false_iff_ne.2 (by omega)
    have d1 : decide (48 ≤ c) = true := decide_eq_true (by omega)
    have d2 : decide (c ≤ 57) = true := decide_eq_true (by omega)
    go_enter Try.func18, Try.ntmps18
    go_wp2
    go_ret
    exact ⟨ret_int (by unfold rule; repeat (first | rw [if_pos (by omega)] | rw [if_neg (by omega)])), rfl⟩
  · go_enter Try.func18, Try.ntmps18
    go_wp2
    go_ret
    exact ⟨ret_int (by unfold rule; repeat (first | rw [if_pos (by omega)] | rw [if_neg (by omega)])), rfl⟩
  · go_enter Try.func18, Try.ntmps18
    go_wp2
    go_ret
    exact ⟨ret_int (by unfold rule; repeat (first | rw [if_pos (by omega)] | rw [if_neg (by omega)])), rfl⟩
  · go_enter Try.func18, Try.ntmps18
    go_wp2
    go_ret
    exact ⟨ret_int (by unfold rule; repeat (first | rw [if_pos (by omega)] | rw [if_neg (by omega)])), rfl⟩
  · go_enter Try.func18, Try.ntmps18
    go_wp2
    go_ret
    exact ⟨ret_int (by unfold rule; repeat (first | rw [if_pos (by omega)] | rw [if_neg (by omega)])), rfl⟩
  · have e45 : (c == 45) = false := beq_eq_false_iff_ne.2 (by omega)
    have e46 : (c == 46) = false := beq_eq_false_iff_ne.2 (by omega)
    have e48 : (c == 48) = false := beq_eq_false_iff_ne.2 (by omega)
    have e101 : (c == 101) = false := beq_eq_false_iff_ne.2 (by omega)
    have e69 : (c == 69) = false := beq_eq_false_iff_ne.2 (by omega)
    have e43 : (c == 43) = false := beq_eq_false_iff_ne.2 (by omega)
    have d1 : decide (48 ≤ c) = false := decide_eq_false (by omega)
    go_enter Try.func18, Try.ntmps18
    go_wp2
    go_ret
    exact ⟨ret_int (by unfold rule; repeat (first | rw [if_pos (by omega)] | rw [if_neg (by omega)])), rfl⟩
  · have e45 : (c == 45) = false := beq_eq_false_iff_ne.2 (by omega)
    have e46 : (c == 46) = false := beq_eq_false_iff_ne.2 (by omega)
    have e48 : (c == 48) = false := beq_eq_false_iff_ne.2 (by omega)
    have e101 : (c == 101) = false := beq_eq_false_iff_ne.2 (by omega)
    have e69 : (c == 69) = false := beq_eq_false_iff_ne.2 (by omega)
    have e43 : (c == 43) = false := beq_eq_false_iff_ne.2 (by omega)
    have d1 : decide (48 ≤ c) = true := decide_eq_true (by omega)
    have d2 : decide (c ≤ 57) = false := decide_eq_false (by omega)
    go_enter Try.func18, Try.ntmps18
    go_wp2
    go_ret
    exact ⟨ret_int (by unfold rule; repeat (first | rw [if_pos (by omega)] | rw [if_neg (by omega)])), rfl⟩

set_option maxHeartbeats 1000000 in
theorem rule_11 (c : Int) (w : World) : Calls Try.prog 18 #[.int .u8 11, .int .u8 c] w fun e w' => e = .returned (.int .u8 (rule 11 c)) ∧ w = w' := by
  rcases chars c with rfl | rfl | ⟨h1, h2⟩ | rfl | rfl | rfl | rfl | ⟨h1, h2, h3, h4, h5, h6⟩ | ⟨h1, h2, h3⟩
  · go_enter Try.func18, Try.ntmps18
    go_wp2
    go_ret
    exact ⟨ret_int (by unfold rule; repeat (first | rw [if_pos (by omega)] | rw [if_neg (by omega)])), rfl⟩
  · go_enter Try.func18, Try.ntmps18
    go_wp2
    go_ret
    exact ⟨ret_int (by unfold rule; repeat (first | rw [if_pos (by omega)] | rw [if_neg (by omega)])), rfl⟩
  · have e45 : (c == 45) = false := beq_eq_false_iff_ne.2 (by omega)
    have e46 : (c == 46) = false := beq_eq_false_iff_ne.2 (by omega)
    have e48 : (c == 48) = false := beq_eq_false_iff_ne.2 (by omega)
    have e101 : (c == 101) = false := beq_eq_false_iff_ne.2 (by omega)
    have e69 : (c == 69) = false := beq_eq_false_iff_ne.2 (by omega)
    have e43 : (c == 43) = false := beq_eq_false_iff_ne.2 (by omega)
    have d1 : decide (48 ≤ c) = true := decide_eq_true (by omega)
    have d2 : decide (c ≤ 57) = true := decide_eq_true (by omega)
    go_enter Try.func18, Try.ntmps18
    go_wp2
    go_ret
    exact ⟨ret_int (by unfold rule; repeat (first | rw [if_pos (by omega)] | rw [if_neg (by omega)])), rfl⟩
  · go_enter Try.func18, Try.ntmps18
    go_wp2
    go_ret
    exact ⟨ret_int (by unfold rule; repeat (first | rw [if_pos (by omega)] | rw [if_neg (by omega)])), rfl⟩
  · go_enter Try.func18, Try.ntmps18
    go_wp2
    go_ret
    exact ⟨ret_int (by unfold rule; repeat (first | rw [if_pos (by omega)] | rw [if_neg (by omega)])), rfl⟩
  · go_enter Try.func18, Try.ntmps18
    go_wp2
    go_ret
    exact ⟨ret_int (by unfold rule; repeat (first | rw [if_pos (by omega)] | rw [if_neg (by omega)])), rfl⟩
  · go_enter Try.func18, Try.ntmps18
    go_wp2
    go_ret
    exact ⟨ret_int (by unfold rule; repeat (first | rw [if_pos (by omega)] | rw [if_neg (by omega)])), rfl⟩
  · have e45 : (c == 45) = false := beq_eq_false_iff_ne.2 (by omega)
    have e46 : (c == 46) = false := beq_eq_false_iff_ne.2 (by omega)
    have e48 : (c == 48) = false := beq_eq_false_iff_ne.2 (by omega)
    have e101 : (c == 101) = false := beq_eq_false_iff_ne.2 (by omega)
    have e69 : (c == 69) = false := beq_eq_false_iff_ne.2 (by omega)
    have e43 : (c == 43) = false := beq_eq_false_iff_ne.2 (by omega)
    have d1 : decide (48 ≤ c) = false := decide_eq_false (by omega)
    go_enter Try.func18, Try.ntmps18
    go_wp2
    go_ret
    exact ⟨ret_int (by unfold rule; repeat (first | rw [if_pos (by omega)] | rw [if_neg (by omega)])), rfl⟩
  · have e45 : (c == 45) = false := beq_eq_false_iff_ne.2 (by omega)
    have e46 : (c == 46) = false := beq_eq_false_iff_ne.2 (by omega)
    have e48 : (c == 48) = false := beq_eq_false_iff_ne.2 (by omega)
    have e101 : (c == 101) = false := beq_eq_false_iff_ne.2 (by omega)
    have e69 : (c == 69) = false := beq_eq_false_iff_ne.2 (by omega)
    have e43 : (c == 43) = false := beq_eq_false_iff_ne.2 (by omega)
    have d1 : decide (48 ≤ c) = true := decide_eq_true (by omega)
    have d2 : decide (c ≤ 57) = false := decide_eq_false (by omega)
    go_enter Try.func18, Try.ntmps18
    go_wp2
    go_ret
    exact ⟨ret_int (by unfold rule; repeat (first | rw [if_pos (by omega)] | rw [if_neg (by omega)])), rfl⟩

set_option maxHeartbeats 1000000 in
theorem rule_12 (c : Int) (w : World) : Calls Try.prog 18 #[.int .u8 12, .int .u8 c] w fun e w' => e = .returned (.int .u8 (rule 12 c)) ∧ w = w' := by
  rcases chars c with rfl | rfl | ⟨h1, h2⟩ | rfl | rfl | rfl | rfl | ⟨h1, h2, h3, h4, h5, h6⟩ | ⟨h1, h2, h3⟩
  · go_enter Try.func18, Try.ntmps18
    go_wp2
    go_ret
    exact ⟨ret_int (by unfold rule; repeat (first | rw [if_pos (by omega)] | rw [if_neg (by omega)])), rfl⟩
  · go_enter Try.func18, Try.ntmps18
    go_wp2
    go_ret
    exact ⟨ret_int (by unfold rule; repeat (first | rw [if_pos (by omega)] | rw [if_neg (by omega)])), rfl⟩
  · have e45 : (c == 45) = false := beq_eq_false_iff_ne.2 (by omega)
    have e46 : (c == 46) = false := beq_eq_false_iff_ne.2 (by omega)
    have e48 : (c == 48) = false := beq_eq_false_iff_ne.2 (by omega)
    have e101 : (c == 101) = false := beq_eq_false_iff_ne.2 (by omega)
    have e69 : (c == 69) = false := beq_eq_false_iff_ne.2 (by omega)
    have e43 : (c == 43) = false := beq_eq_false_iff_ne.2 (by omega)
    have d1 : decide (48 ≤ c) = true := decide_eq_true (by omega)
    have d2 : decide (c ≤ 57) = true := decide_eq_true (by omega)
    go_enter Try.func18, Try.ntmps18
    go_wp2
    go_ret
    exact ⟨ret_int (by unfold rule; repeat (first | rw [if_pos (by omega)] | rw [if_neg (by omega)])), rfl⟩
  · go_enter Try.func18, Try.ntmps18
    go_wp2
    go_ret
    exact ⟨ret_int (by unfold rule; repeat (first | rw [if_pos (by omega)] | rw [if_neg (by omega)])), rfl⟩
  · go_enter Try.func18, Try.ntmps18
    go_wp2
    go_ret
    exact ⟨ret_int (by unfold rule; repeat (first | rw [if_pos (by omega)] | rw [if_neg (by omega)])), rfl⟩
  · go_enter Try.func18, Try.ntmps18
    go_wp2
    go_ret
    exact ⟨ret_int (by unfold rule; repeat (first | rw [if_pos (by omega)] | rw [if_neg (by omega)])), rfl⟩
  · go_enter Try.func18, Try.ntmps18
    go_wp2
    go_ret
    exact ⟨ret_int (by unfold rule; repeat (first | rw [if_pos (by omega)] | rw [if_neg (by omega)])), rfl⟩
  · have e45 : (c == 45) = false := beq_eq_false_iff_ne.2 (by omega)
    have e46 : (c == 46) = false := beq_eq_false_iff_ne.2 (by omega)
    have e48 : (c == 48) = false := beq_eq_false_iff_ne.2 (by omega)
    have e101 : (c == 101) = false := beq_eq_false_iff_ne.2 (by omega)
    have e69 : (c == 69) = false := beq_eq_false_iff_ne.2 (by omega)
    have e43 : (c == 43) = false := beq_eq_false_iff_ne.2 (by omega)
    have d1 : decide (48 ≤ c) = false := decide_eq_false (by omega)
    go_enter Try.func18, Try.ntmps18
    go_wp2
    go_ret
    exact ⟨ret_int (by unfold rule; repeat (first | rw [if_pos (by omega)] | rw [if_neg (by omega)])), rfl⟩
  · have e45 : (c == 45) = false := beq_eq_false_iff_ne.2 (by omega)
    have e46 : (c == 46) = false := beq_eq_false_iff_ne.2 (by omega)
    have e48 : (c == 48) = false := beq_eq_false_iff_ne.2 (by omega)
    have e101 : (c == 101) = false := beq_eq_false_iff_ne.2 (by omega)
    have e69 : (c == 69) = false := beq_eq_false_iff_ne.2 (by omega)
    have e43 : (c == 43) = false := beq_eq_false_iff_ne.2 (by omega)
    have d1 : decide (48 ≤ c) = true := decide_eq_true (by omega)
    have d2 : decide (c ≤ 57) = false := decide_eq_false (by omega)
    go_enter Try.func18, Try.ntmps18
    go_wp2
    go_ret
    exact ⟨ret_int (by unfold rule; repeat (first | rw [if_pos (by omega)] | rw [if_neg (by omega)])), rfl⟩

set_option maxHeartbeats 1000000 in
theorem rule_13 (c : Int) (w : World) : Calls Try.prog 18 #[.int .u8 13, .int .u8 c] w fun e w' => e = .returned (.int .u8 (rule 13 c)) ∧ w = w' := by
  rcases chars c with rfl | rfl | ⟨h1, h2⟩ | rfl | rfl | rfl | rfl | ⟨h1, h2, h3, h4, h5, h6⟩ | ⟨h1, h2, h3⟩
  · go_enter Try.func18, Try.ntmps18
    go_wp2
    go_ret
    exact ⟨ret_int (by unfold rule; repeat (first | rw [if_pos (by omega)] | rw [if_neg (by omega)])), rfl⟩
  · go_enter Try.func18, Try.ntmps18
    go_wp2
    go_ret
    exact ⟨ret_int (by unfold rule; repeat (first | rw [if_pos (by omega)] | rw [if_neg (by omega)])), rfl⟩
  · have e45 : (c == 45) = false := beq_eq_false_iff_ne.2 (by omega)
    have e46 : (c == 46) = false := beq_eq_false_iff_ne.2 (by omega)
    have e48 : (c == 48) = false := beq_eq_false_iff_ne.2 (by omega)
    have e101 : (c == 101) = false := beq_eq_false_iff_ne.2 (by omega)
    have e69 : (c == 69) = false := beq_eq_false_iff_ne.2 (by omega)
    have e43 : (c == 43) = false := beq_eq_false_iff_ne.2 (by omega)
    have d1 : decide (48 ≤ c) = true := decide_eq_true (by omega)
    have d2 : decide (c ≤ 57) = true := decide_eq_true (by omega)
    go_enter Try.func18, Try.ntmps18
    go_wp2
    go_ret
    exact ⟨ret_int (by unfold rule; repeat (first | rw [if_pos (by omega)] | rw [if_neg (by omega)])), rfl⟩
  · go_enter Try.func18, Try.ntmps18
    go_wp2
    go_ret
    exact ⟨ret_int (by unfold rule; repeat (first | rw [if_pos (by omega)] | rw [if_neg (by omega)])), rfl⟩
  · go_enter Try.func18, Try.ntmps18
    go_wp2
    go_ret
    exact ⟨ret_int (by unfold rule; repeat (first | rw [if_pos (by omega)] | rw [if_neg (by omega)])), rfl⟩
  · go_enter Try.func18, Try.ntmps18
    go_wp2
    go_ret
    exact ⟨ret_int (by unfold rule; repeat (first | rw [if_pos (by omega)] | rw [if_neg (by omega)])), rfl⟩
  · go_enter Try.func18, Try.ntmps18
    go_wp2
    go_ret
    exact ⟨ret_int (by unfold rule; repeat (first | rw [if_pos (by omega)] | rw [if_neg (by omega)])), rfl⟩
  · have e45 : (c == 45) = false := beq_eq_false_iff_ne.2 (by omega)
    have e46 : (c == 46) = false := beq_eq_false_iff_ne.2 (by omega)
    have e48 : (c == 48) = false := beq_eq_false_iff_ne.2 (by omega)
    have e101 : (c == 101) = false := beq_eq_false_iff_ne.2 (by omega)
    have e69 : (c == 69) = false := beq_eq_false_iff_ne.2 (by omega)
    have e43 : (c == 43) = false := beq_eq_false_iff_ne.2 (by omega)
    have d1 : decide (48 ≤ c) = false := decide_eq_false (by omega)
    go_enter Try.func18, Try.ntmps18
    go_wp2
    go_ret
    exact ⟨ret_int (by unfold rule; repeat (first | rw [if_pos (by omega)] | rw [if_neg (by omega)])), rfl⟩
  · have e45 : (c == 45) = false := beq_eq_false_iff_ne.2 (by omega)
    have e46 : (c == 46) = false := beq_eq_false_iff_ne.2 (by omega)
    have e48 : (c == 48) = false := beq_eq_false_iff_ne.2 (by omega)
    have e101 : (c == 101) = false := beq_eq_false_iff_ne.2 (by omega)
    have e69 : (c == 69) = false := beq_eq_false_iff_ne.2 (by omega)
    have e43 : (c == 43) = false := beq_eq_false_iff_ne.2 (by omega)
    have d1 : decide (48 ≤ c) = true := decide_eq_true (by omega)
    have d2 : decide (c ≤ 57) = false := decide_eq_false (by omega)
    go_enter Try.func18, Try.ntmps18
    go_wp2
    go_ret
    exact ⟨ret_int (by unfold rule; repeat (first | rw [if_pos (by omega)] | rw [if_neg (by omega)])), rfl⟩

set_option maxHeartbeats 1000000 in
theorem rule_14 (c : Int) (w : World) : Calls Try.prog 18 #[.int .u8 14, .int .u8 c] w fun e w' => e = .returned (.int .u8 (rule 14 c)) ∧ w = w' := by
  rcases chars c with rfl | rfl | ⟨h1, h2⟩ | rfl | rfl | rfl | rfl | ⟨h1, h2, h3, h4, h5, h6⟩ | ⟨h1, h2, h3⟩
  · go_enter Try.func18, Try.ntmps18
    go_wp2
    go_ret
    exact ⟨ret_int (by unfold rule; repeat (first | rw [if_pos (by omega)] | rw [if_neg (by omega)])), rfl⟩
  · go_enter Try.func18, Try.ntmps18
    go_wp2
    go_ret
    exact ⟨ret_int (by unfold rule; repeat (first | rw [if_pos (by omega)] | rw [if_neg (by omega)])), rfl⟩
  · have e45 : (c == 45) = false := beq_eq_false_iff_ne.2 (by omega)
    have e46 : (c == 46) = false := beq_eq_false_iff_ne.2 (by omega)
    have e48 : (c == 48) = false := beq_eq_false_iff_ne.2 (by omega)
    have e101 : (c == 101) = false := beq_eq_false_iff_ne.2 (by omega)
    have e69 : (c == 69) = false := beq_eq_false_iff_ne.2 (by omega)
    have e43 : (c == 43) = false := beq_eq_false_iff_ne.2 (by omega)
    have d1 : decide (48 ≤ c) = true := decide_eq_true (by omega)
    have d2 : decide (c ≤ 57) = true := decide_eq_true (by omega)
    go_enter Try.func18, Try.ntmps18
    go_wp2
    go_ret
    exact ⟨ret_int (by unfold rule; repeat (first | rw [if_pos (by omega)] | rw [if_neg (by omega)])), rfl⟩
  · go_enter Try.func18, Try.ntmps18
    go_wp2
    go_ret
    exact ⟨ret_int (by unfold rule; repeat (first | rw [if_pos (by omega)] | rw [if_neg (by omega)])), rfl⟩
  · go_enter Try.func18, Try.ntmps18
    go_wp2
    go_ret
    exact ⟨ret_int (by unfold rule; repeat (first | rw [if_pos (by omega)] | rw [if_neg (by omega)])), rfl⟩
  · go_enter Try.func18, Try.ntmps18
    go_wp2
    go_ret
    exact ⟨ret_int (by unfold rule; repeat (first | rw [if_pos (by omega)] | rw [if_neg (by omega)])), rfl⟩
  · go_enter Try.func18, Try.ntmps18
    go_wp2
    go_ret
    exact ⟨ret_int (by unfold rule; repeat (first | rw [if_pos (by omega)] | rw [if_neg (by omega)])), rfl⟩
  · have e45 : (c == 45) = false := beq_eq_false_iff_ne.2 (by omega)
    have e46 : (c == 46) = false := beq_eq_false_iff_ne.2 (by omega)
    have e48 : (c == 48) = false := beq_eq_false_iff_ne.2 (by omega)
    have e101 : (c == 101) = false := beq_eq_false_iff_ne.2 (by omega)
    have e69 : (c == 69) = false := beq_eq_false_iff_ne.2 (by omega)
    have e43 : (c == 43) = false := beq_eq_false_iff_ne.2 (by omega)
    have d1 : decide (48 ≤ c) = false := decide_eq_false (by omega)
    go_enter Try.func18, Try.ntmps18
    go_wp2
    go_ret
    exact ⟨ret_int (by unfold rule; repeat (first | rw [if_pos (by omega)] | rw [if_neg (by omega)])), rfl⟩
  · have e45 : (c == 45) = false := beq_eq_false_iff_ne.2 (by omega)
    have e46 : (c == 46) = false := beq_eq_false_iff_ne.2 (by omega)
    have e48 : (c == 48) = false := beq_eq_false_iff_ne.2 (by omega)
    have e101 : (c == 101) = false := beq_eq_false_iff_ne.2 (by omega)
    have e69 : (c == 69) = false := beq_eq_false_iff_ne.2 (by omega)
    have e43 : (c == 43) = false := beq_eq_false_iff_ne.2 (by omega)
    have d1 : decide (48 ≤ c) = true := decide_eq_true (by omega)
    have d2 : decide (c ≤ 57) = false := decide_eq_false (by omega)
    go_enter Try.func18, Try.ntmps18
    go_wp2
    go_ret
    exact ⟨ret_int (by unfold rule; repeat (first | rw [if_pos (by omega)] | rw [if_neg (by omega)])), rfl⟩

set_option maxHeartbeats 1000000 in
theorem rule_15 (c : Int) (w : World) : Calls Try.prog 18 #[.int .u8 15, .int .u8 c] w fun e w' => e = .returned (.int .u8 (rule 15 c)) ∧ w = w' := by
  rcases chars c with rfl | rfl | ⟨h1, h2⟩ | rfl | rfl | rfl | rfl | ⟨h1, h2, h3, h4, h5, h6⟩ | ⟨h1, h2, h3⟩
  · go_enter Try.func18, Try.ntmps18
    go_wp2
    go_ret
    exact ⟨ret_int (by unfold rule; repeat (first | rw [if_pos (by omega)] | rw [if_neg (by omega)])), rfl⟩
  · go_enter Try.func18, Try.ntmps18
    go_wp2
    go_ret
    exact ⟨ret_int (by unfold rule; repeat (first | rw [if_pos (by omega)] | rw [if_neg (by omega)])), rfl⟩
  · have e45 : (c == 45) = false := beq_eq_false_iff_ne.2 (by omega)
    have e46 : (c == 46) = false := beq_eq_false_iff_ne.2 (by omega)
    have e48 : (c == 48) = false := beq_eq_false_iff_ne.2 (by omega)
    have e101 : (c == 101) = false := beq_eq_false_iff_ne.2 (by omega)
    have e69 : (c == 69) = false := beq_eq_false_iff_ne.2 (by omega)
    have e43 : (c == 43) = false := beq_eq_false_iff_ne.2 (by omega)
    have d1 : decide (48 ≤ c) = true := decide_eq_true (by omega)
    have d2 : decide (c ≤ 57) = true := decide_eq_true (by omega)
    go_enter Try.func18, Try.ntmps18
    go_wp2
    go_ret
    exact ⟨ret_int (by unfold rule; repeat (first | rw [if_pos (by omega)] | rw [if_neg (by omega)])), rfl⟩
  · go_enter Try.func18, Try.ntmps18
    go_wp2
    go_ret
    exact ⟨ret_int (by unfold rule; repeat (first | rw [if_pos (by omega)] | rw [if_neg (by omega)])), rfl⟩
  · go_enter Try.func18, Try.ntmps18
    go_wp2
    go_ret
    exact ⟨ret_int (by unfold rule; repeat (first | rw [if_pos (by omega)] | rw [if_neg (by omega)])), rfl⟩
  · go_enter Try.func18, Try.ntmps18
    go_wp2
    go_ret
    exact ⟨ret_int (by unfold rule; repeat (first | rw [if_pos (by omega)] | rw [if_neg (by omega)])), rfl⟩
  · go_enter Try.func18, Try.ntmps18
    go_wp2
    go_ret
    exact ⟨ret_int (by unfold rule; repeat (first | rw [if_pos (by omega)] | rw [if_neg (by omega)])), rfl⟩
  · have e45 : (c == 45) = false := beq_eq_false_iff_ne.2 (by omega)
    have e46 : (c == 46) = false := beq_eq_false_iff_ne.2 (by omega)
    have e48 : (c == 48) = false := beq_eq_false_iff_ne.2 (by omega)
    have e101 : (c == 101) = false := beq_eq_false_iff_ne.2 (by omega)
    have e69 : (c == 69) = false := beq_eq_false_iff_ne.2 (by omega)
    have e43 : (c == 43) = false := beq_eq_false_iff_ne.2 (by omega)
    have d1 : decide (48 ≤ c) = false := decide_eq_false (by omega)
    go_enter Try.func18, Try.ntmps18
    go_wp2
    go_ret
    exact ⟨ret_int (by unfold rule; repeat (first | rw [if_pos (by omega)] | rw [if_neg (by omega)])), rfl⟩
  · have e45 : (c == 45) = false := beq_eq_false_iff_ne.2 (by omega)
    have e46 : (c == 46) = false := beq_eq_false_iff_ne.2 (by omega)
    have e48 : (c == 48) = false := beq_eq_false_iff_ne.2 (by omega)
    have e101 : (c == 101) = false := beq_eq_false_iff_ne.2 (by omega)
    have e69 : (c == 69) = false := beq_eq_false_iff_ne.2 (by omega)
    have e43 : (c == 43) = false := beq_eq_false_iff_ne.2 (by omega)
    have d1 : decide (48 ≤ c) = true := decide_eq_true (by omega)
    have d2 : decide (c ≤ 57) = false := decide_eq_false (by omega)
    go_enter Try.func18, Try.ntmps18
    go_wp2
    go_ret
    exact ⟨ret_int (by unfold rule; repeat (first | rw [if_pos (by omega)] | rw [if_neg (by omega)])), rfl⟩

set_option maxHeartbeats 1000000 in
theorem rule_16 (c : Int) (w : World) : Calls Try.prog 18 #[.int .u8 16, .int .u8 c] w fun e w' => e = .returned (.int .u8 (rule 16 c)) ∧ w = w' := by
  rcases chars c with rfl | rfl | ⟨h1, h2⟩ | rfl | rfl | rfl | rfl | ⟨h1, h2, h3, h4, h5, h6⟩ | ⟨h1, h2, h3⟩
  · go_enter Try.func18, Try.ntmps18
    go_wp2
    go_ret
    exact ⟨ret_int (by unfold rule; repeat (first | rw [if_pos (by omega)] | rw [if_neg (by omega)])), rfl⟩
  · go_enter Try.func18, Try.ntmps18
    go_wp2
    go_ret
    exact ⟨ret_int (by unfold rule; repeat (first | rw [if_pos (by omega)] | rw [if_neg (by omega)])), rfl⟩
  · have e45 : (c == 45) = false := beq_eq_false_iff_ne.2 (by omega)
    have e46 : (c == 46) = false := beq_eq_false_iff_ne.2 (by omega)
    have e48 : (c == 48) = false := beq_eq_false_iff_ne.2 (by omega)
    have e101 : (c == 101) = false := beq_eq_false_iff_ne.2 (by omega)
    have e69 : (c == 69) = false := beq_eq_false_iff_ne.2 (by omega)
    have e43 : (c == 43) = false := beq_eq_false_iff_ne.2 (by omega)
    have d1 : decide (48 ≤ c) = true := decide_eq_true (by omega)
    have d2 : decide (c ≤ 57) = true := decide_eq_true (by omega)
    go_enter Try.func18, Try.ntmps18
    go_wp2
    go_ret
    exact ⟨ret_int (by unfold rule; repeat (first | rw [if_pos (by omega)] | rw [if_neg (by omega)])), rfl⟩
  · go_enter Try.func18, Try.ntmps18
    go_wp2
    go_ret
    exact ⟨ret_int (by unfold rule; repeat (first | rw [if_pos (by omega)] | rw [if_neg (by omega)])), rfl⟩
  · go_enter Try.func18, Try.ntmps18
    go_wp2
    go_ret
    exact ⟨ret_int (by unfold rule; repeat (first | rw [if_pos (by omega)] | rw [if_neg (by omega)])), rfl⟩
  · go_enter Try.func18, Try.ntmps18
    go_wp2
    go_ret
    exact ⟨ret_int (by unfold rule; repeat (first | rw [if_pos (by omega)] | rw [if_neg (by omega)])), rfl⟩
  · go_enter Try.func18, Try.ntmps18
    go_wp2
    go_ret
    exact ⟨ret_int (by unfold rule; repeat (first | rw [if_pos (by omega)] | rw [if_neg (by omega)])), rfl⟩
  · have e45 : (c == 45) = false := beq_eq_false_iff_ne.2 (by omega)
    have e46 : (c == 46) = false := beq_eq_false_iff_ne.2 (by omega)
    have e48 : (c == 48) = false := beq_eq_false_iff_ne.2 (by omega)
    have e101 : (c == 101) = false := beq_eq_false_iff_ne.2 (by omega)
    have e69 : (c == 69) = false := beq_eq_false_iff_ne.2 (by omega)
    have e43 : (c == 43) = false := beq_eq_false_iff_ne.2 (by omega)
    have d1 : decide (48 ≤ c) = false := decide_eq_false (by omega)
    go_enter Try.func18, Try.ntmps18
    go_wp2
    go_ret
    exact ⟨ret_int (by unfold rule; repeat (first | rw [if_pos (by omega)] | rw [if_neg (by omega)])), rfl⟩
  · have e45 : (c == 45) = false := beq_eq_false_iff_ne.2 (by omega)
    have e46 : (c == 46) = false := beq_eq_false_iff_ne.2 (by omega)
    have e48 : (c == 48) = false := beq_eq_false_iff_ne.2 (by omega)
    have e101 : (c == 101) = false := beq_eq_false_iff_ne.2 (by omega)
    have e69 : (c == 69) = false := beq_eq_false_iff_ne.2 (by omega)
    have e43 : (c == 43) = false := beq_eq_false_iff_ne.2 (by omega)
    have d1 : decide (48 ≤ c) = true := decide_eq_true (by omega)
    have d2 : decide (c ≤ 57) = false := decide_eq_false (by omega)
    go_enter Try.func18, Try.ntmps18
    go_wp2
    go_ret
    exact ⟨ret_int (by unfold rule; repeat (first | rw [if_pos (by omega)] | rw [if_neg (by omega)])), rfl⟩

set_option maxHeartbeats 1000000 in
theorem rule_17 (c : Int) (w : World) : Calls Try.prog 18 #[.int .u8 17, .int .u8 c] w fun e w' => e = .returned (.int .u8 (rule 17 c)) ∧ w = w' := by
  rcases chars c with rfl | rfl | ⟨h1, h2⟩ | rfl | rfl | rfl | rfl | ⟨h1, h2, h3, h4, h5, h6⟩ | ⟨h1, h2, h3⟩
  · go_enter Try.func18, Try.ntmps18
    go_wp2
    go_ret
    exact ⟨ret_int (by unfold rule; repeat (first | rw [if_pos (by omega)] | rw [if_neg (by omega)])), rfl⟩
  · go_enter Try.func18, Try.ntmps18
    go_wp2
    go_ret
    exact ⟨ret_int (by unfold rule; repeat (first | rw [if_pos (by omega)] | rw [if_neg (by omega)])), rfl⟩
  · have e45 : (c == 45) = false := beq_eq_false_iff_ne.2 (by omega)
    have e46 : (c == 46) = false := beq_eq_false_iff_ne.2 (by omega)
    have e48 : (c == 48) = false := beq_eq_false_iff_ne.2 (by omega)
    have e101 : (c == 101) = false := beq_eq_false_iff_ne.2 (by omega)
    have e69 : (c == 69) = false := beq_eq_false_iff_ne.2 (by omega)
    have e43 : (c == 43) = false := beq_eq_false_iff_ne.2 (by omega)
    have d1 : decide (48 ≤ c) = true := decide_eq_true (by omega)
    have d2 : decide (c ≤ 57) = true := decide_eq_true (by omega)
    go_enter Try.func18, Try.ntmps18
    go_wp2
    go_ret
    exact ⟨ret_int (by unfold rule; repeat (first | rw [if_pos (by omega)] | rw [if_neg (by omega)])), rfl⟩
  · go_enter Try.func18, Try.ntmps18
    go_wp2
    go_ret
    exact ⟨ret_int (by unfold rule; repeat (first | rw [if_pos (by omega)] | rw [if_neg (by omega)])), rfl⟩
  · go_enter Try.func18, Try.ntmps18
    go_wp2
    go_ret
    exact ⟨ret_int (by unfold rule; repeat (first | rw [if_pos (by omega)] | rw [if_neg (by omega)])), rfl⟩
  · go_enter Try.func18, Try.ntmps18
    go_wp2
    go_ret
    exact ⟨ret_int (by unfold rule; repeat (first | rw [if_pos (by omega)] | rw [if_neg (by omega)])), rfl⟩
  · go_enter Try.func18, Try.ntmps18
    go_wp2
    go_ret
    exact ⟨ret_int (by unfold rule; repeat (first | rw [if_pos (by omega)] | rw [if_neg (by omega)])), rfl⟩
  · have e45 : (c == 45) = false := beq_eq_false_iff_ne.2 (by omega)
    have e46 : (c == 46) = false := beq_eq_false_iff_ne.2 (by omega)
    have e48 : (c == 48) = false := beq_eq_false_iff_ne.2 (by omega)
    have e101 : (c == 101) = false := beq_eq_false_iff_ne.2 (by omega)
    have e69 : (c == 69) = false := beq_eq_false_iff_ne.2 (by omega)
    have e43 : (c == 43) = false := beq_eq_false_iff_ne.2 (by omega)
    have d1 : decide (48 ≤ c) = false := decide_eq_false (by omega)
    go_enter Try.func18, Try.ntmps18
    go_wp2
    go_ret
    exact ⟨ret_int (by unfold rule; repeat (first | rw [if_pos (by omega)] | rw [if_neg (by omega)])), rfl⟩
  · have e45 : (c == 45) = false := beq_eq_false_iff_ne.2 (by omega)
    have e46 : (c == 46) = false := beq_eq_false_iff_ne.2 (by omega)
    have e48 : (c == 48) = false := beq_eq_false_iff_ne.2 (by omega)
    have e101 : (c == 101) = false := beq_eq_false_iff_ne.2 (by omega)
    have e69 : (c == 69) = false := beq_eq_false_iff_ne.2 (by omega)
    have e43 : (c == 43) = false := beq_eq_false_iff_ne.2 (by omega)
    have d1 : decide (48 ≤ c) = true := decide_eq_true (by omega)
    have d2 : decide (c ≤ 57) = false := decide_eq_false (by omega)
    go_enter Try.func18, Try.ntmps18
    go_wp2
    go_ret
    exact ⟨ret_int (by unfold rule; repeat (first | rw [if_pos (by omega)] | rw [if_neg (by omega)])), rfl⟩

set_option maxHeartbeats 1000000 in
theorem rule_o (s : Int) (hs : s ≠ 0 ∧ s ≠ 1 ∧ s ≠ 10 ∧ s ≠ 11 ∧ s ≠ 12 ∧ s ≠ 13 ∧ s ≠ 14 ∧ s ≠ 15 ∧ s ≠ 16 ∧ s ≠ 17) (c : Int) (w : World) : Calls Try.prog 18 #[.int .u8 s, .int .u8 c] w fun e w' => e = .returned (.int .u8 (rule s c)) ∧ w = w' := by
  have s0 : (s == 0) = false := beq_eq_false_iff_ne.2 (by omega)
  have s1 : (s == 1) = false := beq_eq_false_iff_ne.2 (by omega)
  have s10 : (s == 10) = false := beq_eq_false_iff_ne.2 (by omega)
  have s11 : (s == 11) = false := beq_eq_false_iff_ne.2 (by omega)
  have s12 : (s == 12) = false := beq_eq_false_iff_ne.2 (by omega)
  have s13 : (s == 13) = false := beq_eq_false_iff_ne.2 (by omega)
  have s14 : (s == 14) = false := beq_eq_false_iff_ne.2 (by omega)
  have s15 : (s == 15) = false := beq_eq_false_iff_ne.2 (by omega)
  have s16 : (s == 16) = false := beq_eq_false_iff_ne.2 (by omega)
  have s17 : (s == 17) = false := beq_eq_false_iff_ne.2 (by omega)
  rcases chars c with rfl | rfl | ⟨h1, h2⟩ | rfl | rfl | rfl | rfl | ⟨h1, h2, h3, h4, h5, h6⟩ | ⟨h1, h2, h3⟩
  · go_enter Try.func18, Try.ntmps18
    go_wp2
    go_ret
    exact ⟨ret_int (by unfold rule; repeat (first | rw [if_pos (by omega)] | rw [if_neg (by omega)])), rfl⟩
  · go_enter Try.func18, Try.ntmps18
    go_wp2
    go_ret
    exact ⟨ret_int (by unfold rule; repeat (first | rw [if_pos (by omega)] | rw [if_neg (by omega)])), rfl⟩
  · have e45 : (c == 45) = false := beq_eq_false_iff_ne.2 (by omega)
    have e46 : (c == 46) = false := beq_eq_false_iff_ne.2 (by omega)
    have e48 : (c == 48) = false := beq_eq_false_iff_ne.2 (by omega)
    have e101 : (c == 101) = false := beq_eq_false_iff_ne.2 (by omega)
    have e69 : (c == 69) = false := beq_eq_false_iff_ne.2 (by omega)
    have e43 : (c == 43) = false := beq_eq_false_iff_ne.2 (by omega)
    have d1 : decide (48 ≤ c) = true := decide_eq_true (by omega)
    have d2 : decide (c ≤ 57) = true := decide_eq_true (by omega)
    go_enter Try.func18, Try.ntmps18
    go_wp2
    go_ret
    exact ⟨ret_int (by unfold rule; repeat (first | rw [if_pos (by omega)] | rw [if_neg (by omega)])), rfl⟩
  · go_enter Try.func18, Try.ntmps18
    go_wp2
    go_ret
    exact ⟨ret_int (by unfold rule; repeat (first | rw [if_pos (by omega)] | rw [if_neg (by omega)])), rfl⟩
  · go_enter Try.func18, Try.ntmps18
    go_wp2
    go_ret
    exact ⟨ret_int (by unfold rule; repeat (first | rw [if_pos (by omega)] | rw [if_neg (by omega)])), rfl⟩
  · go_enter Try.func18, Try.ntmps18
    go_wp2
    go_ret
    exact ⟨ret_int (by unfold rule; repeat (first | rw [if_pos (by omega)] | rw [if_neg (by omega)])), rfl⟩
  · go_enter Try.func18, Try.ntmps18
    go_wp2
    go_ret
    exact ⟨ret_int (by unfold rule; repeat (first | rw [if_pos (by omega)] | rw [if_neg (by omega)])), rfl⟩
  · have e45 : (c == 45) = false := beq_eq_false_iff_ne.2 (by omega)
    have e46 : (c == 46) = false := beq_eq_false_iff_ne.2 (by omega)
    have e48 : (c == 48) = false := beq_eq_false_iff_ne.2 (by omega)
    have e101 : (c == 101) = false := beq_eq_false_iff_ne.2 (by omega)
    have e69 : (c == 69) = false := beq_eq_false_iff_ne.2 (by omega)
    have e43 : (c == 43) = false := beq_eq_false_iff_ne.2 (by omega)
    have d1 : decide (48 ≤ c) = false := decide_eq_false (by omega)
    go_enter Try.func18, Try.ntmps18
    go_wp2
    go_ret
    exact ⟨ret_int (by unfold rule; repeat (first | rw [if_pos (by omega)] | rw [if_neg (by omega)])), rfl⟩
  · have e45 : (c == 45) = false := beq_eq_false_iff_ne.2 (by omega)
    have e46 : (c == 46) = false := beq_eq_false_iff_ne.2 (by omega)
    have e48 : (c == 48) = false := beq_eq_false_iff_ne.2 (by omega)
    have e101 : (c == 101) = false := beq_eq_false_iff_ne.2 (by omega)
    have e69 : (c == 69) = false := beq_eq_false_iff_ne.2 (by omega)
    have e43 : (c == 43) = false := beq_eq_false_iff_ne.2 (by omega)
    have d1 : decide (48 ≤ c) = true := decide_eq_true (by omega)
    have d2 : decide (c ≤ 57) = false := decide_eq_false (by omega)
    go_enter Try.func18, Try.ntmps18
    go_wp2
    go_ret
    exact ⟨ret_int (by unfold rule; repeat (first | rw [if_pos (by omega)] | rw [if_neg (by omega)])), rfl⟩

theorem numberRule_any (s c : Int) (w : World) : Calls Try.prog 18 #[.int .u8 s, .int .u8 c] w fun e w' => e = .returned (.int .u8 (rule s c)) ∧ w = w' := by
  rcases (show s = 0 ∨ s = 1 ∨ s = 10 ∨ s = 11 ∨ s = 12 ∨ s = 13 ∨ s = 14 ∨ s = 15 ∨ s = 16 ∨ s = 17 ∨ (s ≠ 0 ∧ s ≠ 1 ∧ s ≠ 10 ∧ s ≠ 11 ∧ s ≠ 12 ∧ s ≠ 13 ∧ s ≠ 14 ∧ s ≠ 15 ∧ s ≠ 16 ∧ s ≠ 17) from by omega) with rfl | rfl | rfl | rfl | rfl | rfl | rfl | rfl | rfl | rfl | h
  · exact rule_0 c w
  · exact rule_1 c w
  · exact rule_10 c w
  · exact rule_11 c w
  · exact rule_12 c w
  · exact rule_13 c w
  · exact rule_14 c w
  · exact rule_15 c w
  · exact rule_16 c w
  · exact rule_17 c w
  · exact rule_o s h c w

theorem zzNumberRule_any (s c : Int) (w : World) : Calls Try.prog 7 #[.int .u8 s, .int .u8 c] w fun e w' => e = .returned (.int .u8 (rule s c)) ∧ w = w' := by
  go_enter Try.func7, Try.ntmps7
  go_wp2_with (go_at_call 18; refine (numberRule_any _ _ _).mono ?_; rintro e w' ⟨rfl, rfl⟩)
  go_ret
  exact ⟨rfl, rfl⟩

def isD (c : Int) : Bool := decide (48 ≤ c ∧ c ≤ 57)
theorem isD_true {c : Int} (h : 48 ≤ c ∧ c ≤ 57) : isD c = true := decide_eq_true h
theorem isD_false {c : Int} (h : ¬ (48 ≤ c ∧ c ≤ 57)) : isD c = false := decide_eq_false h
theorem of_isD {c : Int} (h : isD c = true) : 48 ≤ c ∧ c ≤ 57 := of_decide_eq_true h
theorem of_not_isD {c : Int} (h : isD c = false) : ¬ (48 ≤ c ∧ c ≤ 57) := of_decide_eq_false h

theorem digit_any (c : Int) (w : World) : Calls Try.prog 19 #[.int .u8 c] w fun e w' => e = .returned (.bool (isD c)) ∧ w = w' := by
  rcases (show c < 48 ∨ (48 ≤ c ∧ c ≤ 57) ∨ (48 ≤ c ∧ 57 < c) from by omega) with h | ⟨h1, h2⟩ | ⟨h1, h2⟩
  · have hd : Hid (isD c = false) := isD_false (by omega)
    have d1 : decide (48 ≤ c) = false := decide_eq_false (by omega)
    go_enter Try.func19, Try.ntmps19
    go_wp2
    go_ret
    exact ⟨ret_bool hd.out.symm, rfl⟩
  · have hd : Hid (isD c = true) := isD_true ⟨h1, h2⟩
    have d1 : decide (48 ≤ c) = true := decide_eq_true (by omega)
    have d2 : decide (c ≤ 57) = true := decide_eq_true (by omega)
    go_enter Try.func19, Try.ntmps19
    go_wp2
    go_ret
    exact ⟨ret_bool hd.out.symm, rfl⟩
  · have hd : Hid (isD c = false) := isD_false (by omega)
    have d1 : decide (48 ≤ c) = true := decide_eq_true (by omega)
    have d2 : decide (c ≤ 57) = false := decide_eq_false (by omega)
    go_enter Try.func19, Try.ntmps19
    go_wp2
    go_ret
    exact ⟨ret_bool hd.out.symm, rfl⟩
end Go.Proofs.Qxb6602723a
