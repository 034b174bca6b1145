/-
  The comparison of two 128-bit words: the walk of ZZUint128Cmp and cmp, and plain facts on its answer.
-/
import Derived.Test.Qxb6602829aRows
import Derived.WalkKit
import Derived.WalkSpells
import Derived.ProofKit
namespace Go.Proofs.Qxb6602829a
open Go.RowKit

/-- The order of two numbers of two words each. -/
def cmpI (xh xl yh yl : Int) : Int := if xh < yh then -1 else if yh < xh then 1 else if xl < yl then -1 else if yl < xl then 1 else 0

theorem grown_trans {A B C : World} (h : Grown A B) (k : Grown B C) : Grown A C :=
  ⟨World.keptBut_trans h.1 (World.keptBut_mono (fun _ f => f.elim) k.1), fun a => (k.2.1 a).trans (h.2.1 a), Nat.le_trans h.2.2 k.2.2⟩

theorem ret_int {k : IntKind} {a b : Int} (h : a = b) : Ending.returned (.int k a) = .returned (.int k b) := by rw [h]

theorem cmpI_lt {xh xl yh yl : Int} (h : xh < yh) : cmpI xh xl yh yl = -1 := by simp [cmpI, h]
theorem cmpI_gt {xh xl yh yl : Int} (h : yh < xh) : cmpI xh xl yh yl = 1 := by simp [cmpI, h]; omega
theorem cmpI_eq_lt {xh xl yl : Int} (h : xl < yl) : cmpI xh xl xh yl = -1 := by simp [cmpI, h]
theorem cmpI_eq_gt {xh xl yl : Int} (h : yl < xl) : cmpI xh xl xh yl = 1 := by simp [cmpI, h]; omega
theorem cmpI_eq_eq {xh xl : Int} : cmpI xh xl xh xl = 0 := by simp [cmpI]

theorem cmp_any (xh xl yh yl : Int) (w : World) :
    Calls Try.prog 12 #[.int .u64 xh, .int .u64 xl, .int .u64 yh, .int .u64 yl] w fun e w' => e = .returned (.int .i64 (cmpI xh xl yh yl)) ∧ Grown w w' := by
  go_enter Try.func12, Try.ntmps12
  go_wp2
  all_goals go_ret
  all_goals refine ⟨ret_int ?_, ((Grown.refl _).alloc _ _).alloc _ _⟩
  · rw [cmpI_lt (by assumption)]
  · have h1 : (xh != yh) = true := by assumption
    have h2 : yh ≤ xh := by assumption
    have h3 : yh < xh := by have : ¬ xh = yh := by simpa using h1
                            omega
    rw [cmpI_gt h3]
  · have h1 : (xh != yh) = false := by assumption
    have h2 : xh = yh := by simpa using h1
    rw [h2, cmpI_eq_lt (by assumption)]
  · have h1 : (xh != yh) = false := by assumption
    have h2 : xh = yh := by simpa using h1
    have h3 : (xl != yl) = true := by assumption
    have h4 : yl ≤ xl := by assumption
    have h5 : yl < xl := by have : ¬ xl = yl := by simpa using h3
                            omega
    rw [h2, cmpI_eq_gt h5]
  · have h1 : (xh != yh) = false := by assumption
    have h2 : xh = yh := by simpa using h1
    have h3 : (xl != yl) = false := by assumption
    have h4 : xl = yl := by simpa using h3
    rw [h2, h4, cmpI_eq_eq]
end Go.Proofs.Qxb6602829a
