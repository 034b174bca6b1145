/-
  zzNumberDFA: the walk.
-/
import Derived.Test.Qxb6003361aNumStep
namespace Go.Proofs.Qxb6003361a.Num
open Go.RowKit

def accB (s : Int) : Bool := decide (Acc s)

theorem step_range (s c : Int) (h : ¬ step s c < 0) : 0 ≤ step s c ∧ step s c ≤ 8 := by
  refine ⟨by omega, ?_⟩
  simp only [step]
  (repeat' split) <;> omega

theorem acc_eq (s : Int) : (s == 2 || s == 3 || s == 5 || s == 8) = accB s := by
  rw [Bool.eq_iff_iff]
  simp [accB, Acc, or_assoc]

theorem accT {s : Int} (h : s = 2 ∨ s = 3 ∨ s = 5) : true = accB s := by
  rcases h with rfl | rfl | rfl <;> rfl

theorem drop_cons {zs : List Int} {k : Nat} (h : k < zs.length) : zs.drop k = zs.getD k 0 :: zs.drop (k + 1) := by
  rw [List.drop_eq_getElem_cons h]
  simp [h]

theorem dfa_on {zs : List Int} {p k : Nat} {s c : Int} (hk : p ≤ k) (hlt : k < zs.length) (hc : zs.getD k 0 = c) (hs : ¬ step s c < 0) (h : dfa (zs.drop p) 0 = ((dfa (zs.drop k) s).1 + (k - p), (dfa (zs.drop k) s).2)) :
    dfa (zs.drop p) 0 = ((dfa (zs.drop (k + 1)) (step s c)).1 + (k + 1 - p), (dfa (zs.drop (k + 1)) (step s c)).2) := by
  rw [h, drop_cons hlt, hc]
  simp only [dfa, if_neg hs]
  congr 1
  omega
theorem dfa_stop {zs : List Int} {p k : Nat} {s c : Int} (hlt : k < zs.length) (hc : zs.getD k 0 = c) (hs : step s c < 0) (h : dfa (zs.drop p) 0 = ((dfa (zs.drop k) s).1 + (k - p), (dfa (zs.drop k) s).2)) :
    dfa (zs.drop p) 0 = (k - p, s) := by
  rw [h, drop_cons hlt, hc]
  simp only [dfa, if_pos hs, Nat.zero_add]
theorem dfa_end {zs : List Int} {p k : Nat} {s : Int} (hlt : ¬ k < zs.length) (h : dfa (zs.drop p) 0 = ((dfa (zs.drop k) s).1 + (k - p), (dfa (zs.drop k) s).2)) :
    dfa (zs.drop p) 0 = (k - p, s) := by
  rw [h, List.drop_of_length_le (by omega)]
  simp only [dfa, Nat.zero_add]

theorem ret_two {l : List Int} {p k : Nat} {s : Int} {c : Bool} (hk : p ≤ k) (h : dfa l 0 = (k - p, s)) (hc : c = accB s) :
    Ending.returned (.tuple #[.int .i64 (k : Int), .bool c]) = .returned (.tuple #[.int .i64 ((p + (dfa l 0).1 : Nat) : Int), .bool (accB (dfa l 0).2)]) := by
  rw [h, hc, show p + (k - p, s).1 = k by simp only; omega]

set_option maxHeartbeats 800000 in
theorem dfa_any (a : Option Addr) (len cap : Nat) (zs : List Int) (p : Nat) (w : World) (hs : Src w a zs) (hl : zs.length = len) (hb : ∀ i, 0 ≤ zs.getD i 0 ∧ zs.getD i 0 ≤ 255) (hm : len ≤ 1048576) (hp : p ≤ len) :
    Calls Try.prog 11 #[.slice a len cap, .int .i64 p] w fun e w' => e = .returned (.tuple #[.int .i64 ((p + (dfa (zs.drop p) 0).1 : Nat) : Int), .bool (accB (dfa (zs.drop p) 0).2)]) ∧ w' = w := by
  have HL : Hid (zs.length = len) := hl
  have HS : Hid (Src w a zs) := hs
  have HB : Hid (∀ i, 0 ≤ zs.getD i 0 ∧ zs.getD i 0 ≤ 255) := hb
  clear hs hl hb
  go_enter Try.func11, Try.ntmps11
  go_wp2
  go_loop [6, 7] (fun t i => ∃ (k : Nat) (s : Int), p ≤ k ∧ k ≤ len ∧ 0 ≤ s ∧ s ≤ 8 ∧ t = .int .i64 s ∧ i = .int .i64 k ∧ Hid (dfa (zs.drop p) 0 = ((dfa (zs.drop k) s).1 + (k - p), (dfa (zs.drop k) s).2))) (fun _ i => len - (intOf i).toNat)
  case atStart => exact ⟨p, 0, Nat.le_refl _, hp, by decide, by decide, rfl, rfl, show _ = _ by simp⟩
  case round =>
    obtain ⟨k, s, hpk, hkl, hs0, hs8, rfl, rfl, hd⟩ := hrel
    by_cases hlt : k < len
    · have hltz : k < zs.length := by have := HL.out; omega
      obtain ⟨b, off, ha, _, hc⟩ := HS.out.resolve_left (by omega)
      subst ha
      obtain ⟨q0, q1⟩ := HB.out k
      have hcell := hc k hltz
      obtain ⟨c, hcc⟩ : ∃ c, zs.getD k 0 = c := ⟨_, rfl⟩
      rw [hcc] at hcell q0 q1
      have HC : Hid (zs.getD k 0 = c) := hcc
      clear hc hcc hltz
      by_cases hst : step s c < 0
      · have E : Hid (dfa (zs.drop p) 0 = (k - p, s)) := dfa_stop (by have := HL.out; omega) HC.out hst hd.out
        clear hd
        go_wp2_with (go_at_call 43; refine (step_any _ _ hs0 hs8 q0 q1 _).mono ?_; rintro e w' ⟨rfl, rfl⟩)
        all_goals go_ret2
        all_goals refine ⟨ret_two hpk E.out ?_, rfl⟩
        all_goals first | exact acc_eq s | exact accT (.inl (by assumption)) | exact accT (.inr (.inl (by assumption))) | exact accT (.inr (.inr (by assumption)))
      · obtain ⟨r0, r8⟩ := step_range s _ hst
        go_wp2_with (go_at_call 43; refine (step_any _ _ hs0 hs8 q0 q1 _).mono ?_; rintro e w' ⟨rfl, rfl⟩)
        go_round
        case rel => exact ⟨k + 1, _, by omega, by omega, r0, r8, rfl, by go_num, dfa_on hpk (by have := HL.out; omega) HC.out (by omega) hd.out⟩
        case measure => simp [intOf]; omega
    · have E : Hid (dfa (zs.drop p) 0 = (k - p, s)) := dfa_end (by have := HL.out; omega) hd.out
      clear hd
      go_wp2
      all_goals go_ret2
      all_goals refine ⟨ret_two hpk E.out ?_, rfl⟩
      all_goals first | exact acc_eq s | exact accT (.inl (by assumption)) | exact accT (.inr (.inl (by assumption))) | exact accT (.inr (.inr (by assumption)))
end Go.Proofs.Qxb6003361a.Num
