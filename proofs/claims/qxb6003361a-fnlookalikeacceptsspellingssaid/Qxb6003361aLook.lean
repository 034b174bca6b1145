/-
  Lookalike and foldName: the walks, and the plain function that they compute.
-/
import Derived.Test.Qxb6003361aRows
import Derived.WalkKit
import Derived.WalkSpells
import Derived.ProofKit
import Derived.Deep.QuietTactic
import Derived.BigQuiet
namespace Go.Proofs.Qxb6003361a
open Go.RowKit

/-- What foldName gives. -/
def fold (c : Int) : Int := if c = 95 then 45 else if 65 ≤ c ∧ c ≤ 90 then c + 32 else c

/-- The bytes of a text, folded. -/
def folded (s : ByteArray) : List Int := s.data.toList.map fun c => fold (c.toNat : Int)

/-- What Lookalike gives. -/
def look (a b : ByteArray) : Bool := decide (folded a = folded b)

theorem ret_int {k : IntKind} {a b : Int} (h : a = b) : Ending.returned (.int k a) = .returned (.int k b) := by rw [h]
theorem ret_bool {a b : Bool} (h : a = b) : Ending.returned (.bool a) = .returned (.bool b) := by rw [h]

theorem fold_any (c : Int) (h0 : 0 ≤ c) (h1 : c ≤ 255) (w : World) :
    Calls Try.prog 49 #[.int .u8 c] w fun e w' => e = .returned (.int .u8 (fold c)) ∧ w' = w := by
  by_cases h2 : c = 95
  · subst h2
    go_enter Try.func49, Try.ntmps49
    go_wp2
    go_ret
    exact ⟨rfl, rfl⟩
  by_cases h3 : 65 ≤ c
  · by_cases h4 : c ≤ 90
    · go_enter Try.func49, Try.ntmps49
      go_wp2
      go_ret
      exact ⟨ret_int (by simp only [fold, if_neg h2, if_pos (And.intro h3 h4)]; omega), rfl⟩
    · go_enter Try.func49, Try.ntmps49
      go_wp2
      go_ret
      exact ⟨ret_int (by simp only [fold, if_neg h2]; rw [if_neg (by omega)]), rfl⟩
  · go_enter Try.func49, Try.ntmps49
    go_wp2
    go_ret
    exact ⟨ret_int (by simp only [fold, if_neg h2]; rw [if_neg (by omega)]), rfl⟩

theorem folded_length (s : ByteArray) : (folded s).length = s.size := by simp [folded]
theorem folded_get (s : ByteArray) (k : Nat) (h : k < s.size) : (folded s)[k]? = some (fold (s[k].toNat : Int)) := by
  simp [folded, h]; rfl
theorem look_true {a b : ByteArray} (hs : a.size = b.size) (h : ∀ j, j < a.size → (folded a)[j]? = (folded b)[j]?) : look a b = true := by
  unfold look
  simp only [decide_eq_true_eq]
  apply List.ext_getElem?
  intro j
  by_cases hj : j < a.size
  · exact h j hj
  · rw [List.getElem?_eq_none (by rw [folded_length]; omega), List.getElem?_eq_none (by rw [folded_length]; omega)]
theorem look_size {a b : ByteArray} (hs : ¬ a.size = b.size) : look a b = false := by
  unfold look
  simp only [decide_eq_false_iff_not]
  intro h
  exact hs (by rw [← folded_length, ← folded_length, h])
theorem look_at {a b : ByteArray} (k : Nat) (hs : ¬ (folded a)[k]? = (folded b)[k]?) : look a b = false := by
  unfold look
  simp only [decide_eq_false_iff_not]
  intro h
  exact hs (by rw [h])

theorem draws_more {w wr : World} (h : ∃ n, wr = w.drewN n) (m : Nat) : ∃ n, wr.drewN m = w.drewN n := by
  obtain ⟨n, rfl⟩ := h
  exact ⟨n + m, World.drewN_drewN _ _ _⟩
theorem pre_succ {x y : List Int} {k : Nat} (h : ∀ j, j < k → x[j]? = y[j]?) (h' : x[k]? = y[k]?) : ∀ j, j < k + 1 → x[j]? = y[j]? := by
  intro j hj
  by_cases e : j = k
  · rw [e]; exact h'
  · exact h j (by omega)

/-! ### The plain law: an equivalence -/
theorem look_refl (a : ByteArray) : look a a = true := by simp [look]
theorem look_symm (a b : ByteArray) : look b a = look a b := by
  unfold look
  by_cases h : folded a = folded b
  · simp [h]
  · have h' : ¬ folded b = folded a := fun e => h e.symm
    simp [h, h']
theorem look_trans {a b c : ByteArray} (h : look a b = true) (k : look b c = true) : look a c = true := by
  simp only [look, decide_eq_true_eq] at *
  exact h.trans k

set_option maxHeartbeats 800000 in
theorem look_any (a b : ByteArray) (w : World) (ha : a.size ≤ maxLen) :
    Calls Try.prog 31 #[.string a, .string b] w fun e w' => e = .returned (.bool (look a b)) ∧ ∃ n, w' = w.drewN n := by
  unfold maxLen at ha
  by_cases hs : a.size = b.size
  · have s1 : a.size ≤ b.size := by omega
    have s2 : b.size ≤ a.size := by omega
    have HS : Hid (a.size = b.size) := hs
    clear hs
    go_enter Try.func31, Try.ntmps31
    go_wp2
    go_loopw [13] (fun i wr => ∃ k : Nat, k ≤ a.size ∧ i = .int .i64 k ∧ Hid (∃ n, wr = w.drewN n) ∧ Hid (∀ j, j < k → (folded a)[j]? = (folded b)[j]?)) (fun i _ => a.size - (intOf i).toNat)
    case atStart => exact ⟨0, Nat.zero_le _, rfl, ⟨0, rfl⟩, fun j hj => by omega⟩
    case round =>
      obtain ⟨k, hk, rfl, hwr, hpre⟩ := hrel
      by_cases hlt : k < a.size
      · have hltb : k < b.size := by omega
        have ua := UInt8.toNat_lt a[k]
        have ub := UInt8.toNat_lt b[k]
        go_wp2
        go_quiet ((go_at_call 49; exact Calls.quiet_of_same (fold_any _ (by omega) (by omega) _)))
        go_wp2
        · have hne : (fold (a[k].toNat : Int) != fold (b[k].toNat : Int)) = true := by assumption
          go_ret
          exact ⟨ret_bool (look_at k (by rw [folded_get a k hlt, folded_get b k hltb]; simpa using hne)).symm, draws_more hwr.out nq⟩
        · have heq : (fold (a[k].toNat : Int) != fold (b[k].toNat : Int)) = false := by assumption
          go_roundw
          case rel => exact ⟨k + 1, by omega, by go_num, draws_more hwr.out nq, pre_succ hpre.out (by rw [folded_get a k hlt, folded_get b k hltb]; simpa using heq)⟩
          case measure => simp [intOf]; omega
      · go_wp2
        go_ret
        exact ⟨ret_bool (look_true HS.out (fun j hj => hpre.out j (by omega))).symm, hwr.out⟩
  · go_enter Try.func31, Try.ntmps31
    go_wp2
    go_ret
    exact ⟨ret_bool (look_size hs).symm, 0, rfl⟩
end Go.Proofs.Qxb6003361a
