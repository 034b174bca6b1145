/-
  The walk of FnLookalikeIsEquivalence.
-/
import Derived.Test.Qxb6003361aLook
namespace Go.Proofs.Qxb6003361a
open Go.RowKit

/-- zzBytes_FnLookalikeIsEquivalence answers a bool and turns nothing. -/
theorem bytes3_any (a b c : ByteArray) (w : World) (ha : a.size ≤ maxLen) (hb : b.size ≤ maxLen) (hc : c.size ≤ maxLen) :
    Calls Try.prog 30 #[.string a, .string b, .string c] w fun e w' => (∃ r, e = .returned (.bool r)) ∧ w' = w := by
  unfold maxLen at ha hb hc
  go_enter Try.func30, Try.ntmps30
  go_wp2
  all_goals (go_ret; exact ⟨⟨_, rfl⟩, rfl⟩)

theorem grown_drewN {W w : World} (h : Grown W w) (n : Nat) : Grown W (w.drewN n) := h

set_option maxHeartbeats 800000 in
theorem equiv_walk (a b c : ByteArray) (w : World) (ha : a.size ≤ maxLen) (hb : b.size ≤ maxLen) (hc : c.size ≤ maxLen) :
    Calls Try.prog 7 #[.string a, .string b, .string c] w fun e w' => e = .returned (.bool true) ∧ Grown w w' := by
  have l1 : look a a = true := look_refl a
  by_cases hab : look a b = true
  · have l2 : look b a = true := (look_symm a b).trans hab
    by_cases hbc : look b c = true
    · have l3 : look a c = true := look_trans hab hbc
      go_enter Try.func7, Try.ntmps7
      go_wp2_with (first | (go_at_call 30; refine (bytes3_any _ _ _ _ ha hb hc).mono ?_; rintro e w' ⟨⟨r, rfl⟩, rfl⟩) | (go_at_call 31; refine (look_any _ _ _ (by assumption)).mono ?_; rintro e w' ⟨rfl, n, rfl⟩))
      all_goals (go_ret; exact ⟨rfl, by repeat (first | exact Grown.refl _ | apply grown_drewN)⟩)
    · have hbc' : look b c = false := by simpa using hbc
      clear hbc
      go_enter Try.func7, Try.ntmps7
      go_wp2_with (first | (go_at_call 30; refine (bytes3_any _ _ _ _ ha hb hc).mono ?_; rintro e w' ⟨⟨r, rfl⟩, rfl⟩) | (go_at_call 31; refine (look_any _ _ _ (by assumption)).mono ?_; rintro e w' ⟨rfl, n, rfl⟩))
      all_goals (go_ret; exact ⟨rfl, by repeat (first | exact Grown.refl _ | apply grown_drewN)⟩)
  · have hab' : look a b = false := by simpa using hab
    clear hab
    have l2 : look b a = false := (look_symm a b).trans hab'
    go_enter Try.func7, Try.ntmps7
    go_wp2_with (first | (go_at_call 30; refine (bytes3_any _ _ _ _ ha hb hc).mono ?_; rintro e w' ⟨⟨r, rfl⟩, rfl⟩) | (go_at_call 31; refine (look_any _ _ _ (by assumption)).mono ?_; rintro e w' ⟨rfl, n, rfl⟩))
    all_goals (go_ret; exact ⟨rfl, by repeat (first | exact Grown.refl _ | apply grown_drewN)⟩)
end Go.Proofs.Qxb6003361a
