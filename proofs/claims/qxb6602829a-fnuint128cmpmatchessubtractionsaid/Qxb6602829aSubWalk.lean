/-
  The walk of FnUint128CmpMatchesSubtraction.
-/
import Derived.Test.Qxb6602829aBorrow
namespace Go.Proofs.Qxb6602829a
open Go.RowKit

theorem ret_bool {a b : Bool} (h : a = b) : Ending.returned (.bool a) = .returned (.bool b) := by rw [h]

/-- The borrow out of the low half, and the difference of the high halves. -/
def lowB (a1 a3 : Int) : Int := bor a1 a3 (IntKind.u64.wrap (a1 - a3))
def highD (a0 a1 a2 a3 : Int) : Int := IntKind.u64.wrap (IntKind.u64.wrap (a0 - a2) - lowB a1 a3)

structure Words (a0 a1 a2 a3 : Int) : Prop where
  h0 : 0 ≤ a0 ∧ a0 < 18446744073709551616
  h1 : 0 ≤ a1 ∧ a1 < 18446744073709551616
  h2 : 0 ≤ a2 ∧ a2 < 18446744073709551616
  h3 : 0 ≤ a3 ∧ a3 < 18446744073709551616

theorem lowB_eq {a0 a1 a2 a3 : Int} (h : Words a0 a1 a2 a3) : lowB a1 a3 = if a1 < a3 then 1 else 0 := by
  have := bor_sub a1 a3 0 h.h1.1 h.h1.2 h.h3.1 h.h3.2 (by omega) (by omega)
  unfold lowB
  rw [IntKind.wrap_u64]
  simpa using this

theorem highD_eq {a0 a1 a2 a3 : Int} : highD a0 a1 a2 a3 = (a0 - a2 - lowB a1 a3) % 18446744073709551616 := by
  unfold highD
  rw [IntKind.wrap_u64, IntKind.wrap_u64]
  omega

theorem highB_eq {a0 a1 a2 a3 : Int} (h : Words a0 a1 a2 a3) : bor a0 a2 (highD a0 a1 a2 a3) = if a0 < a2 + lowB a1 a3 then 1 else 0 := by
  have hl := lowB_eq h
  rw [highD_eq]
  exact bor_sub a0 a2 (lowB a1 a3) h.h0.1 h.h0.2 h.h2.1 h.h2.2 (by rw [hl]; split <;> omega) (by rw [hl]; split <;> omega)

theorem way_lt {a0 a1 a2 a3 : Int} (h : Words a0 a1 a2 a3) (t : (bor a0 a2 (highD a0 a1 a2 a3) == 1) = true) : (cmpI a0 a1 a2 a3 == -1) = true := by
  rw [highB_eq h, lowB_eq h] at t
  unfold cmpI
  simp only [beq_iff_eq] at t ⊢
  (repeat' split at t) <;> (repeat' split) <;> omega

theorem diff_zero {a0 a1 a2 a3 : Int} (h : Words a0 a1 a2 a3) : (bits .or .u64 (highD a0 a1 a2 a3) (IntKind.u64.wrap (a1 - a3)) == 0) = true ↔ a0 = a2 ∧ a1 = a3 := by
  have q0 := h.h0
  have q1 := h.h1
  have q2 := h.h2
  have q3 := h.h3
  simp only [beq_iff_eq]
  rw [IntKind.wrap_u64, or_zero _ _ (by rw [highD_eq]; omega) (by rw [highD_eq]; omega) (by omega) (by omega), highD_eq, lowB_eq h]
  by_cases h13 : a1 < a3
  · simp only [if_pos h13]
    omega
  · simp only [if_neg h13]
    omega

theorem way_eq {a0 a1 a2 a3 : Int} (h : Words a0 a1 a2 a3) (u : (bits .or .u64 (highD a0 a1 a2 a3) (IntKind.u64.wrap (a1 - a3)) == 0) = true) : (cmpI a0 a1 a2 a3 == 0) = true := by
  obtain ⟨rfl, rfl⟩ := (diff_zero h).1 u
  rw [cmpI_eq_eq]
  rfl
theorem way_gt {a0 a1 a2 a3 : Int} (h : Words a0 a1 a2 a3) (t : (bor a0 a2 (highD a0 a1 a2 a3) == 1) = false) (u : (bits .or .u64 (highD a0 a1 a2 a3) (IntKind.u64.wrap (a1 - a3)) == 0) = false) : (cmpI a0 a1 a2 a3 == 1) = true := by
  have hn : ¬ (a0 = a2 ∧ a1 = a3) := fun e => by rw [(diff_zero h).2 e] at u; cases u
  rw [highB_eq h, lowB_eq h] at t
  unfold cmpI
  simp only [beq_iff_eq, beq_eq_false_iff_ne, ne_eq] at t ⊢
  (repeat' split at t) <;> (repeat' split) <;> omega

theorem word_of {n : Int} (h : (Lit.int .u64 n).wf = true) : 0 ≤ n ∧ n < 18446744073709551616 := by
  simp [Lit.wf, IntKind.min, IntKind.max, IntKind.signed, IntKind.bits] at h
  omega

set_option maxHeartbeats 800000 in
theorem sub_walk (a0 a1 a2 a3 : Int) (w0 : (Lit.int .u64 a0).wf = true) (w1 : (Lit.int .u64 a1).wf = true) (w2 : (Lit.int .u64 a2).wf = true) (w3 : (Lit.int .u64 a3).wf = true) (w : World) :
    Calls Try.prog 5 #[.int .u64 a0, .int .u64 a1, .int .u64 a2, .int .u64 a3] w fun e w' => e = .returned (.bool true) ∧ Grown w w' := by
  have H : Hid (Words a0 a1 a2 a3) := ⟨word_of w0, word_of w1, word_of w2, word_of w3⟩
  go_enter Try.func5, Try.ntmps5
  go_wp2_with (go_at_call 12; refine (cmp_any _ _ _ _ _).mono ?_; rintro e w' ⟨rfl, hg⟩)
  · go_ret
    exact ⟨ret_bool (way_lt H.out (by assumption)), hg⟩
  · go_ret
    exact ⟨ret_bool (way_eq H.out (by assumption)), hg⟩
  · go_ret
    exact ⟨ret_bool (way_gt H.out (by assumption) (by assumption)), hg⟩
end Go.Proofs.Qxb6602829a
