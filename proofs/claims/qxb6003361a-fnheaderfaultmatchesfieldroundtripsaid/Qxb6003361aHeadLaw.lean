/-
  FnHeaderFaultMatchesFieldRoundTrip: the walk of the law.
-/
import Derived.Test.Qxb6003361aHeadRound
namespace Go.Proofs.Qxb6003361a.Head
open Go.RowKit

theorem zzfault_any (s : ByteArray) (w : World) (hs : s.size ≤ maxLen) :
    Calls Try.prog 28 #[.string s] w fun e w' => (∃ t : ByteArray, e = .returned (.string t) ∧ t.toList.isEmpty = goodKey s.data.toList) ∧ w' = w := by
  go_enter Try.func28, Try.ntmps28
  go_wp2_with (go_at_call 48; refine (fault_any _ _ hs).mono ?_; rintro e w' ⟨⟨t, rfl, ht⟩, rfl⟩)
  go_ret
  exact ⟨⟨_, rfl, by assumption⟩, rfl⟩

theorem bytes_yes (s : ByteArray) (w : World) (hs : s.size ≤ 1048576) :
    Calls Try.prog 27 #[.string s] w fun e w' => e = .returned (.bool true) ∧ w' = w := by
  go_enter Try.func27, Try.ntmps27
  go_wp2
  go_ret
  exact ⟨rfl, rfl⟩

theorem head_walk (s : ByteArray) (w : World) (hs : s.size ≤ maxLen) :
    Calls Try.prog 6 #[.string s] w fun e w' => e = .returned (.bool true) ∧ Grown w w' := by
  by_cases hz : s.size ≤ 1048576
  · have HG : Hid (roundKey s.data.toList = goodKey s.data.toList) := round_good _
    have hm := hs
    unfold maxLen at hm
    go_enter Try.func6, Try.ntmps6
    go_wp2_with fail
    refine (bytes_yes s _ hz).mono ?_
    rintro e w' ⟨rfl, rfl⟩
    go_wp2_with fail
    refine (zzfault_any s _ hs).mono ?_
    rintro e w' ⟨⟨t, rfl, ht⟩, rfl⟩
    have HT : Hid (t.toList.isEmpty = goodKey s.data.toList) := ht
    clear ht
    go_wp2_with fail
    refine (round_any s _ hz).mono ?_
    rintro e w' ⟨rfl, rfl⟩
    go_wp2
    go_ret
    exact ⟨ret_bool (by rw [HG.out, ← HT.out]; simp), Grown.refl _⟩
  · have hm := hs
    unfold maxLen at hm
    go_enter Try.func6, Try.ntmps6
    go_wp2
    go_ret
    exact ⟨rfl, Grown.refl _⟩
end Go.Proofs.Qxb6003361a.Head
