/-
  headerFault and zzFieldRoundTrips: the walks.
-/
import Derived.Test.Qxb6003361aRows
import Derived.Test.Qxb6003361aHeadPlain
import Derived.WalkKit
import Derived.WalkSpells
import Derived.ProofKit
namespace Go.Proofs.Qxb6003361a.Head
open Go.RowKit

theorem ret_bool {a b : Bool} (h : a = b) : Ending.returned (.bool a) = .returned (.bool b) := by rw [h]

theorem blank_any (c : UInt8) (w : World) : Calls Try.prog 56 #[.int .u8 (c.toNat : Int)] w fun e w' => e = .returned (.bool (blank c)) ∧ w' = w := by
  have hb := UInt8.toNat_lt c
  by_cases h1 : (c.toNat : Int) = 32
  · have hv : blank c = true := by simp [blank, h1]
    go_enter Try.func56, Try.ntmps56
    go_wp2
    go_ret
    exact ⟨ret_bool hv.symm, rfl⟩
  by_cases h2 : (c.toNat : Int) = 9
  · have hv : blank c = true := by simp [blank, h2]
    go_enter Try.func56, Try.ntmps56
    go_wp2
    go_ret
    exact ⟨ret_bool hv.symm, rfl⟩
  · go_enter Try.func56, Try.ntmps56
    go_wp2
    go_ret
    exact ⟨rfl, rfl⟩

/-! ### Plain facts in the walk's spelling -/
theorem emp {t : ByteArray} {b : Bool} (h : t.data.toList.isEmpty = b) : t.toList.isEmpty = b := by rw [ByteArray.toList_eq]; exact h
theorem all_take_succ (s : ByteArray) (k : Nat) (h : k < s.size) (hp : (s.data.toList.take k).all (fun c => !ctl c) = true) (hc : ctl s[k] = false) :
    (s.data.toList.take (k + 1)).all (fun c => !ctl c) = true := by
  rw [List.take_succ_eq_append_getElem (by simpa using h), List.all_append, hp]
  have : s.data.toList[k]'(by simpa using h) = s[k] := rfl
  simp [this, hc]
theorem all_of_take (s : ByteArray) (k : Nat) (h : ¬ k < s.size) (hp : (s.data.toList.take k).all (fun c => !ctl c) = true) : s.data.toList.all (fun c => !ctl c) = true := by
  rwa [List.take_of_length_le (by simp; omega)] at hp
theorem all_bad (s : ByteArray) (k : Nat) (h : k < s.size) (hc : ctl s[k] = true) : s.data.toList.all (fun c => !ctl c) = false := by
  rw [List.all_eq_false]
  exact ⟨s[k], by have : s.data.toList[k]'(by simpa using h) = s[k] := rfl
                  rw [← this]; exact List.getElem_mem _, by simp [hc]⟩
theorem good_bad {s : ByteArray} (h : s.data.toList.all (fun c => !ctl c) = false) : goodKey s.data.toList = false := by simp [goodKey, h]
theorem good_good {s : ByteArray} (he : ends s.data.toList = false) (h : s.data.toList.all (fun c => !ctl c) = true) : goodKey s.data.toList = true := by simp [goodKey, h, he]
theorem good_ends {s : ByteArray} (he : ends s.data.toList = true) : goodKey s.data.toList = false := by simp [goodKey, he]
theorem head_of (s : ByteArray) (h : 0 < s.size) : s.data.toList.head? = some s[0] := by
  rw [List.head?_eq_getElem?, List.getElem?_eq_getElem (by simpa using h)]
  rfl
theorem last_of (s : ByteArray) (h : 0 < s.size) : s.data.toList.getLast? = some s[s.size - 1] := by
  rw [List.getLast?_eq_getElem?, List.getElem?_eq_getElem (by simp; omega)]
  rfl
theorem ends_of (s : ByteArray) (h : 0 < s.size) : ends s.data.toList = (blank s[0] || blank s[s.size - 1]) := by
  unfold ends
  rw [head_of s h, last_of s h]
  rfl

theorem loop_end (s : ByteArray) (k : Nat) (h : ¬ k < s.size) (he : ends s.data.toList = false) (hp : (s.data.toList.take k).all (fun c => !ctl c) = true) : goodKey s.data.toList = true :=
  good_good he (all_of_take s k h hp)

set_option maxHeartbeats 800000 in
theorem fault_any (s : ByteArray) (w : World) (hs : s.size ≤ maxLen) :
    Calls Try.prog 48 #[.string s] w fun e w' => (∃ t : ByteArray, e = .returned (.string t) ∧ t.toList.isEmpty = goodKey s.data.toList) ∧ w' = w := by
  unfold maxLen at hs
  by_cases h0 : s.size = 0
  · have hne : s.toList = [] := by rw [ByteArray.toList_eq]; exact List.length_eq_zero_iff.1 (by simpa using h0)
    have hem : s.toList.isEmpty = true := by rw [hne]; rfl
    have he : ends s.data.toList = false := by rw [← ByteArray.toList_eq, hne]; rfl
    have hg : goodKey s.data.toList = true := good_good he (by rw [← ByteArray.toList_eq, hne]; rfl)
    have HE : Hid (goodKey s.data.toList = true) := hg
    have h0' : s.size ≤ 0 := by omega
    clear hg he hne h0
    go_enter Try.func48, Try.ntmps48
    go_wp2
    refine wp_loop_rounds 1 ?_; rw [rounds_succ]
    go_wp2
    go_ret
    exact ⟨⟨_, rfl, emp HE.out.symm⟩, rfl⟩
  have hp : 0 < s.size := by omega
  have hem : s.toList.isEmpty = false := by
    rw [ByteArray.toList_eq]
    cases hl : s.data.toList with
    | nil => exfalso; have := congrArg List.length hl; simp at this; exact h0 (by rw [this]; rfl)
    | cons => rfl
  have hem2 : ¬ s.toList = [] := by intro e; rw [e] at hem; cases hem
  clear h0
  cases hb0 : blank s[0] with
  | true =>
    have hg : Hid (goodKey s.data.toList = false) := good_ends (by rw [ends_of s hp, hb0]; rfl)
    go_enter Try.func48, Try.ntmps48
    go_wp2_with (go_at_call 56; refine (blank_any _ _).mono ?_; rintro e w' ⟨rfl, rfl⟩)
    go_ret
    exact ⟨⟨_, rfl, emp hg.out.symm⟩, rfl⟩
  | false =>
    cases hb1 : blank s[s.size - 1] with
    | true => 
      have hg : Hid (goodKey s.data.toList = false) := good_ends (by rw [ends_of s hp, hb0, hb1]; rfl)
      go_enter Try.func48, Try.ntmps48
      go_wp2_with (go_at_call 56; refine (blank_any _ _).mono ?_; rintro e w' ⟨rfl, rfl⟩)
      go_ret
      exact ⟨⟨_, rfl, emp hg.out.symm⟩, rfl⟩
    | false =>
      have he : Hid (ends s.data.toList = false) := by rw [ends_of s hp, hb0, hb1]; exact rfl
      go_enter Try.func48, Try.ntmps48
      go_wp2_with (go_at_call 56; refine (blank_any _ _).mono ?_; rintro e w' ⟨rfl, rfl⟩)
      go_loop [22] (fun i => ∃ k : Nat, k ≤ s.size ∧ i = .int .i64 k ∧ Hid ((s.data.toList.take k).all (fun c => !ctl c) = true)) (fun i => s.size - (intOf i).toNat)
      case atStart => exact ⟨0, Nat.zero_le _, rfl, rfl⟩
      case round =>
        obtain ⟨k, hk, rfl, hpre⟩ := hrel
        by_cases hlt : k < s.size
        · go_wp2
          · have hc : ctl s[k] = false := by have h1 : (s[k].toNat : Int) = 9 := by assumption
                                             simp [ctl, h1]
            go_round
            case rel => exact ⟨k + 1, by omega, by go_num, all_take_succ s k hlt hpre.out hc⟩
            case measure => simp [intOf]; omega
          · have hc : ctl s[k] = true := by have h1 : (s[k].toNat : Int) < 32 := by assumption
                                            have h2 : ¬ (s[k].toNat : Int) = 9 := by assumption
                                            simp [ctl, h1, h2]
            go_ret
            exact ⟨⟨_, rfl, emp (good_bad (all_bad s k hlt hc)).symm⟩, rfl⟩
          · have hc : ctl s[k] = true := by have h1 : ((s[k].toNat : Int) == 127) = true := by assumption
                                            simp [ctl, h1]
            go_ret
            exact ⟨⟨_, rfl, emp (good_bad (all_bad s k hlt hc)).symm⟩, rfl⟩
          · have hc : ctl s[k] = false := by have h1 : ((s[k].toNat : Int) == 127) = false := by assumption
                                             have h2 : ¬ (s[k].toNat : Int) < 32 := by assumption
                                             simp only [ctl, h1, decide_eq_false h2]; rfl
            go_round
            case rel => exact ⟨k + 1, by omega, by go_num, all_take_succ s k hlt hpre.out hc⟩
            case measure => simp [intOf]; omega
        · go_wp2
          go_ret
          exact ⟨⟨_, rfl, emp (loop_end s k hlt he.out hpre.out).symm⟩, rfl⟩
end Go.Proofs.Qxb6003361a.Head
