/-
  skipDigits: the walk; the text's bytes as numbers.
-/
import Derived.Test.Qxb6602829aRows
import Derived.Test.Qxb6602829aSplitPlain
import Derived.WalkKit
import Derived.WalkSpells
import Derived.ProofKit
namespace Go.Proofs.Qxb6602829a.Split
open Go.RowKit

theorem ret_int {k : IntKind} {a b : Int} (h : a = b) : Ending.returned (.int k a) = .returned (.int k b) := by rw [h]

theorem len_codes (s : ByteArray) : (codes s).length = s.size := by simp [codes]
theorem drop_codes (s : ByteArray) (k : Nat) (h : k < s.size) : (codes s).drop k = (s[k].toNat : Int) :: (codes s).drop (k + 1) := by
  have hl : k < (codes s).length := by rw [len_codes]; exact h
  rw [List.drop_eq_getElem_cons hl]
  congr 1
  simp [codes]
  rfl
theorem drop_codes_end (s : ByteArray) (k : Nat) (h : ¬ k < s.size) : (codes s).drop k = [] := List.drop_of_length_le (by rw [len_codes]; omega)

theorem skip_on {s : ByteArray} {p k : Nat} (hk : k < s.size) (hd : Dig (s[k].toNat : Int)) (h : p + dlen ((codes s).drop p) = k + dlen ((codes s).drop k)) : p + dlen ((codes s).drop p) = k + 1 + dlen ((codes s).drop (k + 1)) := by
  rw [h, drop_codes s k hk, dlen_cons hd]
  omega
theorem skip_stop {s : ByteArray} {p k : Nat} (hk : k < s.size) (hd : ¬ Dig (s[k].toNat : Int)) (h : p + dlen ((codes s).drop p) = k + dlen ((codes s).drop k)) : p + dlen ((codes s).drop p) = k := by
  rw [h, drop_codes s k hk, dlen_no hd]
  omega
theorem skip_end {s : ByteArray} {p k : Nat} (hk : ¬ k < s.size) (h : p + dlen ((codes s).drop p) = k + dlen ((codes s).drop k)) : p + dlen ((codes s).drop p) = k := by
  rw [h, drop_codes_end s k hk]
  rfl

/-- Where the digits from p on end. -/
def skip (s : ByteArray) (p : Nat) : Nat := p + dlen ((codes s).drop p)
theorem skip_le (s : ByteArray) (p : Nat) (h : p ≤ s.size) : p ≤ skip s p ∧ skip s p ≤ s.size := by
  have := dlen_le ((codes s).drop p)
  rw [List.length_drop, len_codes] at this
  unfold skip
  omega

set_option maxHeartbeats 800000 in
theorem skip_any (s : ByteArray) (p : Nat) (w : World) (hs : s.size ≤ 1048576) (hp : p ≤ s.size) :
    Calls Try.prog 15 #[.string s, .int .i64 p] w fun e w' => e = .returned (.int .i64 (skip s p : Nat)) ∧ w' = w := by
  go_enter Try.func15, Try.ntmps15
  go_wp2
  go_loop [1] (fun i => ∃ k : Nat, p ≤ k ∧ k ≤ s.size ∧ i = .int .i64 k ∧ Hid (p + dlen ((codes s).drop p) = k + dlen ((codes s).drop k))) (fun i => s.size - (intOf i).toNat)
  case atStart => exact ⟨p, Nat.le_refl _, hp, rfl, rfl⟩
  case round =>
    obtain ⟨k, hpk, hk, rfl, hd⟩ := hrel
    by_cases hlt : k < s.size
    · by_cases h0 : 48 ≤ (s[k].toNat : Int)
      · by_cases h9 : (s[k].toNat : Int) ≤ 57
        · have HD : Hid (Dig (s[k].toNat : Int)) := ⟨h0, h9⟩
          go_wp2
          go_round
          case rel => exact ⟨k + 1, by omega, by omega, by go_num, skip_on hlt HD.out hd.out⟩
          case measure => simp [intOf]; omega
        · have HE : Hid (skip s p = k) := skip_stop hlt (by unfold Dig; omega) hd.out
          go_wp2
          go_ret
          exact ⟨ret_int (by rw [HE.out]), rfl⟩
      · have HE : Hid (skip s p = k) := skip_stop hlt (by unfold Dig; omega) hd.out
        go_wp2
        go_ret
        exact ⟨ret_int (by rw [HE.out]), rfl⟩
    · have HE : Hid (skip s p = k) := skip_end hlt hd.out
      go_wp2
      go_ret
      exact ⟨ret_int (by rw [HE.out]), rfl⟩
end Go.Proofs.Qxb6602829a.Split
