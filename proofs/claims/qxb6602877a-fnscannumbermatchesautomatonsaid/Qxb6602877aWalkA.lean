import Derived.Test.Qxb6602877aRows
import Derived.Test.Qxb6602877aPlain
import Derived.WalkKit
import Derived.WalkSpells
import Derived.WalkLawsBesides
import Derived.Deep.CutBlock
import Derived.Deep.DeepCutAuto
import Derived.Deep.Light
namespace Go.Proofs.Qxb6602877a
open Go.RowKit

set_option linter.unusedSimpArgs false

theorem hide {p : Prop} (h : p) : Hid p := h

/-- The n bytes C lie at x. -/
def Bytes (w : World) (b off n : Nat) (C : Nat → Int) : Prop := ∀ j, j < n → w.cell? ⟨b, off + j, none⟩ = some (.int .u8 (C j))

set_option maxHeartbeats 400000 in
theorem acc_any (s : Int) (w : World) : Calls Try.prog 28 #[.int .i64 s] w fun e w' => e = .returned (.bool (Num.acc s)) ∧ w' = w := by
  cases h2 : (s == 2) <;> cases h3 : (s == 3) <;> cases h5 : (s == 5) <;> cases h8 : (s == 8)
  all_goals
    go_enter Try.func28, Try.ntmps28
    go_wp2
    go_ret
    exact ⟨by simp [Num.acc, h2, h3, h5, h8], rfl⟩

theorem ret_int {k : IntKind} {a b : Int} (h : a = b) : Ending.returned (.int k a) = .returned (.int k b) := by rw [h]

theorem next_at (s c r : Int) (h : (if s = 0 then (if c = 45 then 1 else if c = 48 then 2 else if 49 ≤ c ∧ c ≤ 57 then 3 else 9)
  else if s = 1 then (if c = 48 then 2 else if 49 ≤ c ∧ c ≤ 57 then 3 else 9)
  else if s = 2 then (if c = 46 then 4 else if c = 101 ∨ c = 69 then 6 else 9)
  else if s = 3 then (if 48 ≤ c ∧ c ≤ 57 then 3 else if c = 46 then 4 else if c = 101 ∨ c = 69 then 6 else 9)
  else if s = 4 then (if 48 ≤ c ∧ c ≤ 57 then 5 else 9)
  else if s = 5 then (if 48 ≤ c ∧ c ≤ 57 then 5 else if c = 101 ∨ c = 69 then 6 else 9)
  else if s = 6 then (if c = 43 ∨ c = 45 then 7 else if 48 ≤ c ∧ c ≤ 57 then 8 else 9)
  else if s = 7 ∨ s = 8 then (if 48 ≤ c ∧ c ≤ 57 then 8 else 9)
  else (9 : Int)) = r) : r = Num.next s c := by
  rw [← h]
  unfold Num.next Num.nz Num.dgt Num.mark Num.sign
  simp only [Bool.and_eq_true, Bool.or_eq_true, decide_eq_true_eq, beq_iff_eq]

set_option maxHeartbeats 1000000 in
theorem next0 (c : Int) (w : World) : Calls Try.prog 27 #[.int .i64 0, .int .u8 c] w fun e w' => e = .returned (.int .i64 (Num.next 0 c)) ∧ w' = w := by
  go_enter Try.func27, Try.ntmps27
  go_wp2
  all_goals
    go_ret
    refine ⟨ret_int (next_at _ _ _ ?_), rfl⟩
    go_light
    simp only [beq_iff_eq, beq_eq_false_iff_ne, ne_eq] at *
    first
    | rfl
    | (simp only [Int.reduceEq, if_true, if_false, or_true, or_false, false_or, true_or]; (repeat' split) <;> omega)

set_option maxHeartbeats 1000000 in
theorem next1 (c : Int) (w : World) : Calls Try.prog 27 #[.int .i64 1, .int .u8 c] w fun e w' => e = .returned (.int .i64 (Num.next 1 c)) ∧ w' = w := by
  go_enter Try.func27, Try.ntmps27
  go_wp2
  all_goals
    go_ret
    refine ⟨ret_int (next_at _ _ _ ?_), rfl⟩
    go_light
    simp only [beq_iff_eq, beq_eq_false_iff_ne, ne_eq] at *
    first
    | rfl
    | (simp only [Int.reduceEq, if_true, if_false, or_true, or_false, false_or, true_or]; (repeat' split) <;> omega)

set_option maxHeartbeats 1000000 in
theorem next2 (c : Int) (w : World) : Calls Try.prog 27 #[.int .i64 2, .int .u8 c] w fun e w' => e = .returned (.int .i64 (Num.next 2 c)) ∧ w' = w := by
  go_enter Try.func27, Try.ntmps27
  go_wp2
  all_goals
    go_ret
    refine ⟨ret_int (next_at _ _ _ ?_), rfl⟩
    go_light
    simp only [beq_iff_eq, beq_eq_false_iff_ne, ne_eq] at *
    first
    | rfl
    | (simp only [Int.reduceEq, if_true, if_false, or_true, or_false, false_or, true_or]; (repeat' split) <;> omega)

set_option maxHeartbeats 1000000 in
theorem next3 (c : Int) (w : World) : Calls Try.prog 27 #[.int .i64 3, .int .u8 c] w fun e w' => e = .returned (.int .i64 (Num.next 3 c)) ∧ w' = w := by
  go_enter Try.func27, Try.ntmps27
  go_wp2
  all_goals
    go_ret
    refine ⟨ret_int (next_at _ _ _ ?_), rfl⟩
    go_light
    simp only [beq_iff_eq, beq_eq_false_iff_ne, ne_eq] at *
    first
    | rfl
    | (simp only [Int.reduceEq, if_true, if_false, or_true, or_false, false_or, true_or]; (repeat' split) <;> omega)

set_option maxHeartbeats 1000000 in
theorem next4 (c : Int) (w : World) : Calls Try.prog 27 #[.int .i64 4, .int .u8 c] w fun e w' => e = .returned (.int .i64 (Num.next 4 c)) ∧ w' = w := by
  go_enter Try.func27, Try.ntmps27
  go_wp2
  all_goals
    go_ret
    refine ⟨ret_int (next_at _ _ _ ?_), rfl⟩
    go_light
    simp only [beq_iff_eq, beq_eq_false_iff_ne, ne_eq] at *
    first
    | rfl
    | (simp only [Int.reduceEq, if_true, if_false, or_true, or_false, false_or, true_or]; (repeat' split) <;> omega)

set_option maxHeartbeats 1000000 in
theorem next5 (c : Int) (w : World) : Calls Try.prog 27 #[.int .i64 5, .int .u8 c] w fun e w' => e = .returned (.int .i64 (Num.next 5 c)) ∧ w' = w := by
  go_enter Try.func27, Try.ntmps27
  go_wp2
  all_goals
    go_ret
    refine ⟨ret_int (next_at _ _ _ ?_), rfl⟩
    go_light
    simp only [beq_iff_eq, beq_eq_false_iff_ne, ne_eq] at *
    first
    | rfl
    | (simp only [Int.reduceEq, if_true, if_false, or_true, or_false, false_or, true_or]; (repeat' split) <;> omega)

set_option maxHeartbeats 1000000 in
theorem next6 (c : Int) (w : World) : Calls Try.prog 27 #[.int .i64 6, .int .u8 c] w fun e w' => e = .returned (.int .i64 (Num.next 6 c)) ∧ w' = w := by
  go_enter Try.func27, Try.ntmps27
  go_wp2
  all_goals
    go_ret
    refine ⟨ret_int (next_at _ _ _ ?_), rfl⟩
    go_light
    simp only [beq_iff_eq, beq_eq_false_iff_ne, ne_eq] at *
    first
    | rfl
    | (simp only [Int.reduceEq, if_true, if_false, or_true, or_false, false_or, true_or]; (repeat' split) <;> omega)

set_option maxHeartbeats 1000000 in
theorem next7 (c : Int) (w : World) : Calls Try.prog 27 #[.int .i64 7, .int .u8 c] w fun e w' => e = .returned (.int .i64 (Num.next 7 c)) ∧ w' = w := by
  go_enter Try.func27, Try.ntmps27
  go_wp2
  all_goals
    go_ret
    refine ⟨ret_int (next_at _ _ _ ?_), rfl⟩
    go_light
    simp only [beq_iff_eq, beq_eq_false_iff_ne, ne_eq] at *
    first
    | rfl
    | (simp only [Int.reduceEq, if_true, if_false, or_true, or_false, false_or, true_or]; (repeat' split) <;> omega)

set_option maxHeartbeats 1000000 in
theorem next8 (c : Int) (w : World) : Calls Try.prog 27 #[.int .i64 8, .int .u8 c] w fun e w' => e = .returned (.int .i64 (Num.next 8 c)) ∧ w' = w := by
  go_enter Try.func27, Try.ntmps27
  go_wp2
  all_goals
    go_ret
    refine ⟨ret_int (next_at _ _ _ ?_), rfl⟩
    go_light
    simp only [beq_iff_eq, beq_eq_false_iff_ne, ne_eq] at *
    first
    | rfl
    | (simp only [Int.reduceEq, if_true, if_false, or_true, or_false, false_or, true_or]; (repeat' split) <;> omega)
end Go.Proofs.Qxb6602877a
