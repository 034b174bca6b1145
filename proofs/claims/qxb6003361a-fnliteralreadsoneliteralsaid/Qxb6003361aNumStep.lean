/-
  zzNumStep: the walk.
-/
import Derived.Test.Qxb6003361aMem
import Derived.Test.Qxb6003361aNumPlain
import Derived.Deep.Light
namespace Go.Proofs.Qxb6003361a.Num
open Go.RowKit

theorem ret_int {k : IntKind} {a b : Int} (h : a = b) : Ending.returned (.int k a) = .returned (.int k b) := by rw [h]

theorem nine {s : Int} (h0 : 0 ≤ s) (h8 : s ≤ 8) : s = 0 ∨ s = 1 ∨ s = 2 ∨ s = 3 ∨ s = 4 ∨ s = 5 ∨ s = 6 ∨ s = 7 ∨ s = 8 := by omega

theorem step0 (c : Int) : step 0 c = if c = 45 then 1 else if c = 48 then 2 else if 48 ≤ c ∧ c ≤ 57 then 3 else -1 := by simp only [step, if_true]
theorem step1 (c : Int) : step 1 c = if c = 48 then 2 else if 48 ≤ c ∧ c ≤ 57 then 3 else -1 := by simp [step]
theorem step2 (c : Int) : step 2 c = if c = 46 then 4 else if c = 101 ∨ c = 69 then 6 else -1 := by simp [step]
theorem step3 (c : Int) : step 3 c = if 48 ≤ c ∧ c ≤ 57 then 3 else if c = 46 then 4 else if c = 101 ∨ c = 69 then 6 else -1 := by simp [step]
theorem step4 (c : Int) : step 4 c = if 48 ≤ c ∧ c ≤ 57 then 5 else -1 := by simp [step]
theorem step5 (c : Int) : step 5 c = if 48 ≤ c ∧ c ≤ 57 then 5 else if c = 101 ∨ c = 69 then 6 else -1 := by simp [step]
theorem step6 (c : Int) : step 6 c = if c = 43 ∨ c = 45 then 7 else if 48 ≤ c ∧ c ≤ 57 then 8 else -1 := by simp [step]
theorem step7 (c : Int) : step 7 c = if 48 ≤ c ∧ c ≤ 57 then 8 else -1 := by simp [step]
theorem step8 (c : Int) : step 8 c = if 48 ≤ c ∧ c ≤ 57 then 8 else -1 := by simp [step]

set_option maxHeartbeats 2000000 in
theorem step_any (s c : Int) (h0 : 0 ≤ s) (h8 : s ≤ 8) (c0 : 0 ≤ c) (c1 : c ≤ 255) (w : World) :
    Calls Try.prog 43 #[.int .i64 s, .int .u8 c] w fun e w' => e = .returned (.int .i64 (step s c)) ∧ w' = w := by
  rcases nine h0 h8 with rfl | rfl | rfl | rfl | rfl | rfl | rfl | rfl | rfl
  all_goals
    go_enter Try.func43, Try.ntmps43
    go_wp2
  all_goals (go_ret; refine ⟨ret_int ?_, rfl⟩)
  all_goals (try simp only [beq_iff_eq, beq_eq_false_iff_ne] at *)
  all_goals go_light
  all_goals first | rw [step0] | rw [step1] | rw [step2] | rw [step3] | rw [step4] | rw [step5] | rw [step6] | rw [step7] | rw [step8]
  all_goals ((repeat' split) <;> omega)
end Go.Proofs.Qxb6003361a.Num
