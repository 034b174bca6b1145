/-
  The walk of FnUint128CmpAntisymmetricReflexive: five cases by the order of the halves.
-/
import Derived.Test.Qxb6602829aCmp
namespace Go.Proofs.Qxb6602829a
open Go.RowKit

set_option maxHeartbeats 800000 in
theorem anti_walk (a0 a1 a2 a3 : Int) (w : World) :
    Calls Try.prog 6 #[.int .u64 a0, .int .u64 a1, .int .u64 a2, .int .u64 a3] w fun e w' => e = .returned (.bool true) ∧ Grown w w' := by
  have e0 : cmpI a0 a1 a0 a1 = 0 := cmpI_eq_eq
  by_cases h1 : a0 < a2
  · have e1 : cmpI a0 a1 a2 a3 = -1 := cmpI_lt h1
    have e2 : cmpI a2 a3 a0 a1 = 1 := cmpI_gt h1
    have n1 : (a0 == a2) = false := by simp; omega
    go_enter Try.func6, Try.ntmps6
    go_wp2_with (go_at_call 12; refine (cmp_any _ _ _ _ _).mono ?_; rintro e w' ⟨rfl, hg⟩)
    go_ret
    exact ⟨rfl, grown_trans (grown_trans (by assumption) (by assumption)) hg⟩
  by_cases h2 : a2 < a0
  · have e1 : cmpI a0 a1 a2 a3 = 1 := cmpI_gt h2
    have e2 : cmpI a2 a3 a0 a1 = -1 := cmpI_lt h2
    have n1 : (a0 == a2) = false := by simp; omega
    go_enter Try.func6, Try.ntmps6
    go_wp2_with (go_at_call 12; refine (cmp_any _ _ _ _ _).mono ?_; rintro e w' ⟨rfl, hg⟩)
    go_ret
    exact ⟨rfl, grown_trans (grown_trans (by assumption) (by assumption)) hg⟩
  obtain rfl : a0 = a2 := by omega
  clear h1 h2
  by_cases h3 : a1 < a3
  · have e1 : cmpI a0 a1 a0 a3 = -1 := cmpI_eq_lt h3
    have e2 : cmpI a0 a3 a0 a1 = 1 := cmpI_eq_gt h3
    have n1 : (a1 == a3) = false := by simp; omega
    go_enter Try.func6, Try.ntmps6
    go_wp2_with (go_at_call 12; refine (cmp_any _ _ _ _ _).mono ?_; rintro e w' ⟨rfl, hg⟩)
    go_ret
    exact ⟨rfl, grown_trans (grown_trans (by assumption) (by assumption)) hg⟩
  by_cases h4 : a3 < a1
  · have e1 : cmpI a0 a1 a0 a3 = 1 := cmpI_eq_gt h4
    have e2 : cmpI a0 a3 a0 a1 = -1 := cmpI_eq_lt h4
    have n1 : (a1 == a3) = false := by simp; omega
    go_enter Try.func6, Try.ntmps6
    go_wp2_with (go_at_call 12; refine (cmp_any _ _ _ _ _).mono ?_; rintro e w' ⟨rfl, hg⟩)
    go_ret
    exact ⟨rfl, grown_trans (grown_trans (by assumption) (by assumption)) hg⟩
  obtain rfl : a1 = a3 := by omega
  clear h3 h4
  go_enter Try.func6, Try.ntmps6
  go_wp2_with (go_at_call 12; refine (cmp_any _ _ _ _ _).mono ?_; rintro e w' ⟨rfl, hg⟩)
  go_ret
  exact ⟨rfl, grown_trans (grown_trans (by assumption) (by assumption)) hg⟩
end Go.Proofs.Qxb6602829a
