/-
  ZZSplitNumber, and the walk of FnSplitNumberMatchesStateMachine.
-/
import Derived.Test.Qxb6602829aSplitWalk
import Derived.Test.Qxb6602829aModel
import Derived.Deep.QuietTactic
import Derived.BigQuiet
namespace Go.Proofs.Qxb6602829a.Split
open Go.RowKit

theorem grown_draws {a w : World} (h : Grown a w) (n : Nat) : Grown a (w.drewN n) := h

set_option maxRecDepth 20000 in
set_option maxHeartbeats 800000 in
theorem zzsplit_any (s : ByteArray) (w : World) (hs : s.size ≤ 1048576) :
    Calls Try.prog 9 #[.string s] w fun e w' => e = .returned (six (spec s)) ∧ Grown w w' := by
  have hc := split_any s w hs
  unfold aggOf at hc
  unfold six
  obtain ⟨o, ho⟩ : ∃ o, spec s = o := ⟨_, rfl⟩
  rw [ho] at hc ⊢
  clear ho
  obtain ⟨a1, ha1⟩ : ∃ x, pneg o = x := ⟨_, rfl⟩
  obtain ⟨a2, ha2⟩ : ∃ x, pint o = x := ⟨_, rfl⟩
  obtain ⟨a3, ha3⟩ : ∃ x, pfrac o = x := ⟨_, rfl⟩
  obtain ⟨a4, ha4⟩ : ∃ x, pnegx o = x := ⟨_, rfl⟩
  obtain ⟨a5, ha5⟩ : ∃ x, pexpo o = x := ⟨_, rfl⟩
  obtain ⟨a6, ha6⟩ : ∃ x, pok o = x := ⟨_, rfl⟩
  rw [ha1, ha2, ha3, ha4, ha5, ha6] at hc ⊢
  clear ha1 ha2 ha3 ha4 ha5 ha6
  go_enter Try.func9, Try.ntmps9
  go_wp2_with fail
  refine hc.mono ?_
  rintro e w1 ⟨rfl, hb⟩
  have hz : w.heap.size ≤ w1.heap.size := hb.2.2
  clear hc
  go_wp2
  go_quiet (fail)
  go_wp2
  exact bodyPost_ret (v := .tuple #[.bool a1, .string a2, .string a3, .bool a4, .string a5, .bool a6]) (by simp [results, Try.results9, go_sem]) rfl ⟨rfl, grown_draws (hb.alloc _ _) _⟩

theorem bytes_yes (s : ByteArray) (w : World) (hs : s.size ≤ 1048576) : Calls Try.prog 8 #[.string s] w fun e w' => e = .returned (.bool true) ∧ w' = w := by
  go_enter Try.func8, Try.ntmps8
  go_wp2
  go_ret
  exact ⟨rfl, rfl⟩

set_option maxRecDepth 20000 in
set_option maxHeartbeats 800000 in
theorem law_small (s : ByteArray) (w : World) (hs : s.size ≤ 1048576) :
    Calls Try.prog 3 #[.string s] w fun e w' => e = .returned (.bool true) ∧ Grown w w' := by
  have h1 := zzsplit_any s w hs
  have h2 := fun W => model_any s W hs
  unfold six at h1 h2
  obtain ⟨o, ho⟩ : ∃ o, spec s = o := ⟨_, rfl⟩
  rw [ho] at h1 h2
  clear ho
  obtain ⟨a1, ha1⟩ : ∃ x, pneg o = x := ⟨_, rfl⟩
  obtain ⟨a2, ha2⟩ : ∃ x, pint o = x := ⟨_, rfl⟩
  obtain ⟨a3, ha3⟩ : ∃ x, pfrac o = x := ⟨_, rfl⟩
  obtain ⟨a4, ha4⟩ : ∃ x, pnegx o = x := ⟨_, rfl⟩
  obtain ⟨a5, ha5⟩ : ∃ x, pexpo o = x := ⟨_, rfl⟩
  obtain ⟨a6, ha6⟩ : ∃ x, pok o = x := ⟨_, rfl⟩
  rw [ha1, ha2, ha3, ha4, ha5, ha6] at h1 h2
  clear ha1 ha2 ha3 ha4 ha5 ha6
  go_enter Try.func3, Try.ntmps3
  go_wp2_with fail
  refine (bytes_yes s _ hs).mono ?_
  rintro e w' ⟨rfl, hww⟩
  obtain rfl : w = w' := hww.symm
  go_wp2_with fail
  refine h1.mono ?_
  rintro e w1 ⟨rfl, hb⟩
  clear h1
  go_wp2_with fail
  refine (h2 w1).mono ?_
  rintro e w2 ⟨rfl, n, rfl⟩
  clear h2
  have HB := hid_of (grown_draws hb n)
  go_wp2
  go_ret
  exact ⟨rfl, HB.out⟩

theorem law_any (s : ByteArray) (w : World) (hs : s.size ≤ maxLen) :
    Calls Try.prog 3 #[.string s] w fun e w' => e = .returned (.bool true) ∧ Grown w w' := by
  by_cases hz : s.size ≤ 1048576
  · exact law_small s w hz
  · unfold maxLen at hs
    go_enter Try.func3, Try.ntmps3
    go_wp2
    go_ret
    exact ⟨rfl, Grown.refl _⟩
end Go.Proofs.Qxb6602829a.Split
