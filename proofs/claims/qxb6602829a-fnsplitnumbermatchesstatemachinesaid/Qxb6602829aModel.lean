/-
  zzModelSplit: the walk.
-/
import Derived.Test.Qxb6602829aParts
import Derived.Deep.QuietTactic
import Derived.BigQuiet
import Derived.Deep.CutBlock
import Derived.Deep.LoopGhost
namespace Go.Proofs.Qxb6602829a.Split
open Go.RowKit

def digB (c : Int) : Bool := decide (Dig c)
def eB (c : Int) : Bool := decide (c = 101 ∨ c = 69)

/-- One step of the automaton: refused, or a new state. -/
def Step (s : ByteArray) (k : Nat) (next : Int) (v : Vars) : Prop :=
  (next = -1 ∧ spec s = none) ∨ ∃ q : Nat, next = (q : Int) ∧ q ≤ 8 ∧ Inv q v (k + 1) ∧ fut s q v ((codes s).drop (k + 1)) (k + 1) = spec s

theorem dig_yes {c : Int} (h : digB c = true) : Dig c := by simpa [digB] using h
theorem dig_no {c : Int} (h : digB c = false) : ¬ Dig c := by simpa [digB] using h
theorem e_yes {c : Int} (h : eB c = true) : c = 101 ∨ c = 69 := by simpa [eB] using h
theorem e_no {c : Int} (h : eB c = false) : ¬ (c = 101 ∨ c = 69) := by simpa [eB] using h

theorem step_ok {s : ByteArray} {k q q' : Nat} {v v' : Vars} {c : Int} (hq : q' ≤ 8) (hd : (codes s).drop k = c :: (codes s).drop (k + 1)) (hF : fut s q v ((codes s).drop k) k = spec s)
    (h : fut s q v (c :: (codes s).drop (k + 1)) k = fut s q' v' ((codes s).drop (k + 1)) (k + 1) ∧ Inv q' v' (k + 1)) : Step s k (q' : Int) v' :=
  .inr ⟨q', rfl, hq, h.2, by rw [← h.1, ← hd]; exact hF⟩
theorem step_no {s : ByteArray} {k q : Nat} {v v' : Vars} {c : Int} (hd : (codes s).drop k = c :: (codes s).drop (k + 1)) (hF : fut s q v ((codes s).drop k) k = spec s)
    (h : fut s q v (c :: (codes s).drop (k + 1)) k = none) : Step s k (-1) v' :=
  .inl ⟨rfl, by rw [← hF, hd]; exact h⟩

theorem refused6 {o : Option Parts} (h : o = none) : Ending.returned (.tuple #[.bool false, .string ⟨#[]⟩, .string ⟨#[]⟩, .bool false, .string ⟨#[]⟩, .bool false]) = .returned (six o) := by
  rw [h]
  rfl
theorem taken6 {o : Option Parts} {neg : Bool} {it fr : ByteArray} {ne : Bool} {ex : ByteArray} (h : o = some ⟨neg, it, fr, ne, ex⟩) : Ending.returned (.tuple #[.bool neg, .string it, .string fr, .bool ne, .string ex, .bool true]) = .returned (six o) := by
  rw [h]
  rfl

set_option maxRecDepth 20000 in
set_option maxHeartbeats 3200000 in
theorem model_any (s : ByteArray) (w : World) (hs : s.size ≤ 1048576) :
    Calls Try.prog 10 #[.string s] w fun e w' => e = .returned (six (spec s)) ∧ ∃ n, w' = w.drewN n := by
  go_enter Try.func10, Try.ntmps10
  go_wp2
  go_loopg [8, 9, 10, 11, 12, 13, 14, 15, 16, 17, 18] s.size (fun gk s8 s9 s10 s11 s12 s13 s14 s15 s16 s17 s18 wr => ∃ (q : Nat) (v : Vars) (k : Nat), s8 = .bool v.neg ∧ s9 = .bool v.negx ∧ s10 = .bool v.hasF ∧ s11 = .bool v.hasX ∧ s12 = .int .i64 q ∧ s13 = .int .i64 v.i0 ∧ s14 = .int .i64 v.i1 ∧ s15 = .int .i64 v.f0 ∧ s16 = .int .i64 v.f1 ∧ s17 = .int .i64 v.x0 ∧ s18 = .int .i64 k ∧ k ≤ s.size ∧ gk = s.size - k ∧ q ≤ 8 ∧ Hid (Inv q v k) ∧ Hid (fut s q v ((codes s).drop k) k = spec s) ∧ wr = w)
  case atStart => exact ⟨0, ⟨false, false, false, false, 0, 0, 0, 0, 0⟩, 0, rfl, rfl, rfl, rfl, rfl, rfl, rfl, rfl, rfl, rfl, rfl, Nat.zero_le _, rfl, by decide, ⟨rfl, rfl, rfl, rfl, rfl⟩, start _, rfl⟩
  case round =>
    obtain ⟨q, v, k, rfl, rfl, rfl, rfl, rfl, rfl, rfl, rfl, rfl, rfl, rfl, hk, rfl, hq, hI, hF, hw⟩ := hrel
    subst hw
    by_cases hlt : k < s.size
    · go_upto_region 15 with fail
      go_cut [19, 20] from 25 to 103 (fun s19 s20 wx => ∃ c : Int, s19 = .int .u8 c ∧ s20 = .bool (digB c) ∧ Hid ((s[k].toNat : Int) = c) ∧ wx = wr)
      case first =>
        by_cases d0 : 48 ≤ (s[k].toNat : Int)
        · by_cases d9 : (s[k].toNat : Int) ≤ 57
          · have HB : Hid (digB (s[k].toNat : Int) = true) := show _ = _ by simp [digB, Dig, d0, d9]
            go_wp2
            go_meet
            case rel => exact ⟨_, rfl, by rw [HB.out], rfl, rfl⟩
          · have HB : Hid (digB (s[k].toNat : Int) = false) := show _ = _ by simp [digB, Dig]; omega
            go_wp2
            go_meet
            case rel => exact ⟨_, rfl, by rw [HB.out], rfl, rfl⟩
        · have HB : Hid (digB (s[k].toNat : Int) = false) := show _ = _ by simp [digB, Dig]; omega
          go_wp2
          go_meet
          case rel => exact ⟨_, rfl, by rw [HB.out], rfl, rfl⟩
      case rest =>
        obtain ⟨c, rfl, rfl, HC, hwc⟩ := hcut
        subst hwc
        go_upto_region 16 with fail
        go_cut [21] from 25 to 103 (fun s21 wx => s21 = .bool (eB c) ∧ wx = wc)
        case first =>
          by_cases x1 : c = 101
          · have HB : Hid (eB c = true) := show _ = _ by simp [eB, x1]
            go_wp2
            go_meet
            case rel => exact ⟨by rw [HB.out], rfl⟩
          · by_cases x2 : c = 69
            · have HB : Hid (eB c = true) := show _ = _ by simp [eB, x2]
              go_wp2
              go_meet
              case rel => exact ⟨by rw [HB.out], rfl⟩
            · have HB : Hid (eB c = false) := show _ = _ by simp [eB, x1, x2]
              have x1' : (c == 101) = false := by simpa using x1
              have x2' : (c == 69) = false := by simpa using x2
              go_wp2
              go_meet
              case rel => exact ⟨by rw [HB.out], rfl⟩
        case rest =>
          obtain ⟨rfl, hwc⟩ := hcut
          subst hwc
          go_upto_block 2 with fail
          go_cut [8, 9, 10, 11, 13, 14, 15, 16, 17, 19, 20, 21, 22] from 25 to 103 (fun s8 s9 s10 s11 s13 s14 s15 s16 s17 _ _ _ s22 wx => ∃ (v' : Vars) (next : Int), s8 = .bool v'.neg ∧ s9 = .bool v'.negx ∧ s10 = .bool v'.hasF ∧ s11 = .bool v'.hasX ∧ s13 = .int .i64 v'.i0 ∧ s14 = .int .i64 v'.i1 ∧ s15 = .int .i64 v'.f0 ∧ s16 = .int .i64 v'.f1 ∧ s17 = .int .i64 v'.x0 ∧ s22 = .int .i64 next ∧ -1 ≤ next ∧ next ≤ 8 ∧ Hid (Step s k next v') ∧ wx = wc)
          case first =>
            have HD := hid_of ((drop_codes s k hlt).trans (by rw [HC.out] : (s[k].toNat : Int) :: (codes s).drop (k + 1) = c :: (codes s).drop (k + 1)))
            obtain hq | hq | hq | hq | hq | hq | hq | hq | hq : q = 0 ∨ q = 1 ∨ q = 2 ∨ q = 3 ∨ q = 4 ∨ q = 5 ∨ q = 6 ∨ q = 7 ∨ q = 8 := by omega
            · subst hq
              by_cases x45 : c = 45
              · have HST := hid_of (step_ok (q' := 1) (v' := { v with neg := true }) (by decide) HD.out hF.out (s0_minus x45 hI.out))
                have b45 : (c == 45) = true := by simpa using x45
                clear x45
                clear hF hI HD
                go_wp2
                go_meet
                case rel => exact ⟨{ v with neg := true }, 1, rfl, rfl, rfl, rfl, rfl, rfl, rfl, rfl, rfl, rfl, by decide, by decide, HST.out, rfl⟩
              by_cases x48 : c = 48
              · have HST := hid_of (step_ok (q' := 2) (v' := { v with i0 := k }) (by decide) HD.out hF.out (s0_zero x48 hI.out))
                have b45 : (c == 45) = false := by simpa using x45
                have b48 : (c == 48) = true := by simpa using x48
                clear x45 x48
                clear hF hI HD
                go_wp2
                go_meet
                case rel => exact ⟨{ v with i0 := k }, 2, rfl, rfl, rfl, rfl, rfl, rfl, rfl, rfl, rfl, rfl, by decide, by decide, HST.out, rfl⟩
              cases xd : digB c with
              | true =>
                have HST := hid_of (step_ok (q' := 3) (v' := { v with i0 := k }) (by decide) HD.out hF.out (s0_dig (dig_yes xd) x48 hI.out))
                have b45 : (c == 45) = false := by simpa using x45
                have b48 : (c == 48) = false := by simpa using x48
                clear x45 x48
                clear hF hI HD
                go_wp2
                go_meet
                case rel => exact ⟨{ v with i0 := k }, 3, rfl, rfl, rfl, rfl, rfl, rfl, rfl, rfl, rfl, rfl, by decide, by decide, HST.out, rfl⟩
              | false =>
                have HST := hid_of (step_no (v' := v) HD.out hF.out (s0_no (dig_no xd) x45))
                have b45 : (c == 45) = false := by simpa using x45
                have b48 : (c == 48) = false := by simpa using x48
                clear x45 x48
                clear hF hI HD
                go_wp2
                go_meet
                case rel => exact ⟨v, -1, rfl, rfl, rfl, rfl, rfl, rfl, rfl, rfl, rfl, rfl, by decide, by decide, HST.out, rfl⟩
            · subst hq
              by_cases x48 : c = 48
              · have HST := hid_of (step_ok (q' := 2) (v' := { v with i0 := k }) (by decide) HD.out hF.out (s1_zero x48 hI.out))
                have b48 : (c == 48) = true := by simpa using x48
                clear x48
                clear hF hI HD
                go_wp2
                go_meet
                case rel => exact ⟨{ v with i0 := k }, 2, rfl, rfl, rfl, rfl, rfl, rfl, rfl, rfl, rfl, rfl, by decide, by decide, HST.out, rfl⟩
              cases xd : digB c with
              | true =>
                have HST := hid_of (step_ok (q' := 3) (v' := { v with i0 := k }) (by decide) HD.out hF.out (s1_dig (dig_yes xd) x48 hI.out))
                have b48 : (c == 48) = false := by simpa using x48
                clear x48
                clear hF hI HD
                go_wp2
                go_meet
                case rel => exact ⟨{ v with i0 := k }, 3, rfl, rfl, rfl, rfl, rfl, rfl, rfl, rfl, rfl, rfl, by decide, by decide, HST.out, rfl⟩
              | false =>
                have HST := hid_of (step_no (v' := v) HD.out hF.out (s1_no (dig_no xd)))
                have b48 : (c == 48) = false := by simpa using x48
                clear x48
                clear hF hI HD
                go_wp2
                go_meet
                case rel => exact ⟨v, -1, rfl, rfl, rfl, rfl, rfl, rfl, rfl, rfl, rfl, rfl, by decide, by decide, HST.out, rfl⟩
            · subst hq
              by_cases x46 : c = 46
              · have HST := hid_of (step_ok (q' := 4) (v' := { v with i1 := k, hasF := true, f0 := k + 1 }) (by decide) HD.out hF.out (s2_dot x46 hI.out))
                have b46 : (c == 46) = true := by simpa using x46
                clear x46
                clear hF hI HD
                go_wp2
                go_meet
                case rel => exact ⟨{ v with i1 := k, hasF := true, f0 := k + 1 }, 4, rfl, rfl, rfl, rfl, rfl, rfl, rfl, rfl, rfl, rfl, by decide, by decide, HST.out, rfl⟩
              cases xe : eB c with
              | true =>
                have HST := hid_of (step_ok (q' := 6) (v' := { v with i1 := k }) (by decide) HD.out hF.out (s2_e (e_yes xe) hI.out))
                have b46 : (c == 46) = false := by simpa using x46
                clear x46
                clear hF hI HD
                go_wp2
                go_meet
                case rel => exact ⟨{ v with i1 := k }, 6, rfl, rfl, rfl, rfl, rfl, rfl, rfl, rfl, rfl, rfl, by decide, by decide, HST.out, rfl⟩
              | false =>
                have HST := hid_of (step_no (v' := v) HD.out hF.out (s2_no x46 (e_no xe)))
                have b46 : (c == 46) = false := by simpa using x46
                clear x46
                clear hF hI HD
                go_wp2
                go_meet
                case rel => exact ⟨v, -1, rfl, rfl, rfl, rfl, rfl, rfl, rfl, rfl, rfl, rfl, by decide, by decide, HST.out, rfl⟩
            · subst hq
              cases xd : digB c with
              | true =>
                have HST := hid_of (step_ok (q' := 3) (v' := v) (by decide) HD.out hF.out (s3_dig (dig_yes xd) hI.out))
                clear hF hI HD
                go_wp2
                go_meet
                case rel => exact ⟨v, 3, rfl, rfl, rfl, rfl, rfl, rfl, rfl, rfl, rfl, rfl, by decide, by decide, HST.out, rfl⟩
              | false =>
                by_cases x46 : c = 46
                · have HST := hid_of (step_ok (q' := 4) (v' := { v with i1 := k, hasF := true, f0 := k + 1 }) (by decide) HD.out hF.out (s3_dot x46 hI.out))
                  have b46 : (c == 46) = true := by simpa using x46
                  clear x46
                  clear hF hI HD
                  go_wp2
                  go_meet
                  case rel => exact ⟨{ v with i1 := k, hasF := true, f0 := k + 1 }, 4, rfl, rfl, rfl, rfl, rfl, rfl, rfl, rfl, rfl, rfl, by decide, by decide, HST.out, rfl⟩
                cases xe : eB c with
                | true =>
                  have HST := hid_of (step_ok (q' := 6) (v' := { v with i1 := k }) (by decide) HD.out hF.out (s3_e (e_yes xe) hI.out))
                  have b46 : (c == 46) = false := by simpa using x46
                  clear x46
                  clear hF hI HD
                  go_wp2
                  go_meet
                  case rel => exact ⟨{ v with i1 := k }, 6, rfl, rfl, rfl, rfl, rfl, rfl, rfl, rfl, rfl, rfl, by decide, by decide, HST.out, rfl⟩
                | false =>
                  have HST := hid_of (step_no (v' := v) HD.out hF.out (s3_no (dig_no xd) x46 (e_no xe)))
                  have b46 : (c == 46) = false := by simpa using x46
                  clear x46
                  clear hF hI HD
                  go_wp2
                  go_meet
                  case rel => exact ⟨v, -1, rfl, rfl, rfl, rfl, rfl, rfl, rfl, rfl, rfl, rfl, by decide, by decide, HST.out, rfl⟩
            · subst hq
              cases xd : digB c with
              | true =>
                have HST := hid_of (step_ok (q' := 5) (v' := v) (by decide) HD.out hF.out (s4_dig (dig_yes xd) hI.out))
                clear hF hI HD
                go_wp2
                go_meet
                case rel => exact ⟨v, 5, rfl, rfl, rfl, rfl, rfl, rfl, rfl, rfl, rfl, rfl, by decide, by decide, HST.out, rfl⟩
              | false =>
                have HST := hid_of (step_no (v' := v) HD.out hF.out (s4_no (dig_no xd)))
                clear hF hI HD
                go_wp2
                go_meet
                case rel => exact ⟨v, -1, rfl, rfl, rfl, rfl, rfl, rfl, rfl, rfl, rfl, rfl, by decide, by decide, HST.out, rfl⟩
            · subst hq
              cases xd : digB c with
              | true =>
                have HST := hid_of (step_ok (q' := 5) (v' := v) (by decide) HD.out hF.out (s5_dig (dig_yes xd) hI.out))
                clear hF hI HD
                go_wp2
                go_meet
                case rel => exact ⟨v, 5, rfl, rfl, rfl, rfl, rfl, rfl, rfl, rfl, rfl, rfl, by decide, by decide, HST.out, rfl⟩
              | false =>
                cases xe : eB c with
                | true =>
                  have HST := hid_of (step_ok (q' := 6) (v' := { v with f1 := k }) (by decide) HD.out hF.out (s5_e (e_yes xe) hI.out))
                  clear hF hI HD
                  go_wp2
                  go_meet
                  case rel => exact ⟨{ v with f1 := k }, 6, rfl, rfl, rfl, rfl, rfl, rfl, rfl, rfl, rfl, rfl, by decide, by decide, HST.out, rfl⟩
                | false =>
                  have HST := hid_of (step_no (v' := v) HD.out hF.out (s5_no (dig_no xd) (e_no xe)))
                  clear hF hI HD
                  go_wp2
                  go_meet
                  case rel => exact ⟨v, -1, rfl, rfl, rfl, rfl, rfl, rfl, rfl, rfl, rfl, rfl, by decide, by decide, HST.out, rfl⟩
            · subst hq
              by_cases x43 : c = 43
              · have HST := hid_of (step_ok (q' := 7) (v' := v) (by decide) HD.out hF.out (s6_plus x43 hI.out))
                have b43 : (c == 43) = true := by simpa using x43
                clear x43
                clear hF hI HD
                go_wp2
                go_meet
                case rel => exact ⟨v, 7, rfl, rfl, rfl, rfl, rfl, rfl, rfl, rfl, rfl, rfl, by decide, by decide, HST.out, rfl⟩
              by_cases x45 : c = 45
              · have HST := hid_of (step_ok (q' := 7) (v' := { v with negx := true }) (by decide) HD.out hF.out (s6_minus x45 hI.out))
                have b43 : (c == 43) = false := by simpa using x43
                have b45 : (c == 45) = true := by simpa using x45
                clear x45 x43
                clear hF hI HD
                go_wp2
                go_meet
                case rel => exact ⟨{ v with negx := true }, 7, rfl, rfl, rfl, rfl, rfl, rfl, rfl, rfl, rfl, rfl, by decide, by decide, HST.out, rfl⟩
              cases xd : digB c with
              | true =>
                have HST := hid_of (step_ok (q' := 8) (v' := { v with hasX := true, x0 := k }) (by decide) HD.out hF.out (s6_dig (dig_yes xd) hI.out))
                have b43 : (c == 43) = false := by simpa using x43
                have b45 : (c == 45) = false := by simpa using x45
                clear x45 x43
                clear hF hI HD
                go_wp2
                go_meet
                case rel => exact ⟨{ v with hasX := true, x0 := k }, 8, rfl, rfl, rfl, rfl, rfl, rfl, rfl, rfl, rfl, rfl, by decide, by decide, HST.out, rfl⟩
              | false =>
                have HST := hid_of (step_no (v' := v) HD.out hF.out (s6_no (dig_no xd) x43 x45))
                have b43 : (c == 43) = false := by simpa using x43
                have b45 : (c == 45) = false := by simpa using x45
                clear x45 x43
                clear hF hI HD
                go_wp2
                go_meet
                case rel => exact ⟨v, -1, rfl, rfl, rfl, rfl, rfl, rfl, rfl, rfl, rfl, rfl, by decide, by decide, HST.out, rfl⟩
            · subst hq
              cases xd : digB c with
              | true =>
                have HST := hid_of (step_ok (q' := 8) (v' := { v with hasX := true, x0 := k }) (by decide) HD.out hF.out (s7_dig (dig_yes xd) hI.out))
                clear hF hI HD
                go_wp2
                go_meet
                case rel => exact ⟨{ v with hasX := true, x0 := k }, 8, rfl, rfl, rfl, rfl, rfl, rfl, rfl, rfl, rfl, rfl, by decide, by decide, HST.out, rfl⟩
              | false =>
                have HST := hid_of (step_no (v' := v) HD.out hF.out (s7_no (dig_no xd)))
                clear hF hI HD
                go_wp2
                go_meet
                case rel => exact ⟨v, -1, rfl, rfl, rfl, rfl, rfl, rfl, rfl, rfl, rfl, rfl, by decide, by decide, HST.out, rfl⟩
            · subst hq
              cases xd : digB c with
              | true =>
                have HST := hid_of (step_ok (q' := 8) (v' := v) (by decide) HD.out hF.out (s8_dig (dig_yes xd) hI.out))
                clear hF hI HD
                go_wp2
                go_meet
                case rel => exact ⟨v, 8, rfl, rfl, rfl, rfl, rfl, rfl, rfl, rfl, rfl, rfl, by decide, by decide, HST.out, rfl⟩
              | false =>
                have HST := hid_of (step_no (v' := v) HD.out hF.out (s8_no (dig_no xd)))
                clear hF hI HD
                go_wp2
                go_meet
                case rel => exact ⟨v, -1, rfl, rfl, rfl, rfl, rfl, rfl, rfl, rfl, rfl, rfl, by decide, by decide, HST.out, rfl⟩
          case rest =>
            obtain ⟨v', next, rfl, rfl, rfl, rfl, rfl, rfl, rfl, rfl, rfl, rfl, n0, n8, hst, hwc⟩ := hcut
            subst hwc
            rcases hst.out with ⟨hn, hsp⟩ | ⟨q', hn, hq', hI', hF'⟩
            · have HS : Hid (spec s = none) := hsp
              have hn' : next < 0 := by omega
              clear hst hn hsp hF hI
              go_wp2
              exact bodyPost_ret (v := .tuple #[.bool false, .string ⟨#[]⟩, .string ⟨#[]⟩, .bool false, .string ⟨#[]⟩, .bool false]) (by simp [results, Try.results10, go_sem]) rfl ⟨refused6 HS.out, 0, rfl⟩
            · subst hn
              have HI' : Hid (Inv q' v' (k + 1)) := hI'
              have HF' : Hid (fut s q' v' ((codes s).drop (k + 1)) (k + 1) = spec s) := hF'
              clear hst hI' hF' hF hI
              go_wp2
              go_roundg (s.size - (k + 1))
              case measure => omega
              case rel => exact ⟨q', v', k + 1, rfl, rfl, rfl, rfl, rfl, rfl, rfl, rfl, rfl, rfl, by go_num, by omega, rfl, hq', HI'.out, HF'.out, rfl⟩
    · obtain rfl : k = s.size := by omega
      have hE := drop_codes_end s s.size (Nat.lt_irrefl _)
      obtain hq | hq | hq | hq | hq | hq | hq | hq | hq : q = 0 ∨ q = 1 ∨ q = 2 ∨ q = 3 ∨ q = 4 ∨ q = 5 ∨ q = 6 ∨ q = 7 ∨ q = 8 := by omega
      · subst hq
        have HS : Hid (spec s = none) := hF.out.symm.trans (by rw [hE]; rfl)
        clear hF hI hE
        go_wp2
        exact bodyPost_ret (v := .tuple #[.bool false, .string ⟨#[]⟩, .string ⟨#[]⟩, .bool false, .string ⟨#[]⟩, .bool false]) (by simp [results, Try.results10, go_sem]) rfl ⟨refused6 HS.out, 0, rfl⟩
      · subst hq
        have HS : Hid (spec s = none) := hF.out.symm.trans (by rw [hE]; rfl)
        clear hF hI hE
        go_wp2
        exact bodyPost_ret (v := .tuple #[.bool false, .string ⟨#[]⟩, .string ⟨#[]⟩, .bool false, .string ⟨#[]⟩, .bool false]) (by simp [results, Try.results10, go_sem]) rfl ⟨refused6 HS.out, 0, rfl⟩
      · subst hq
        have HS : Hid (spec s = some ⟨v.neg, s.extract v.i0 s.size, nothing, false, nothing⟩) := hF.out.symm.trans (by rw [hE]; rfl)
        have hJ : v.i0 ≤ s.size ∧ v.negx = false ∧ v.hasF = false ∧ v.hasX = false := hI.out
        obtain ⟨j0, j1, j2, j3⟩ := hJ
        clear hF hI hE
        rw [j1, j2, j3]
        clear j1 j2 j3
        go_wp2
        go_quiet (fail)
        go_wp2
        exact bodyPost_ret (v := .tuple #[.bool v.neg, .string (s.extract v.i0 s.size), .string ⟨#[]⟩, .bool false, .string ⟨#[]⟩, .bool true]) (by simp [results, Try.results10, go_sem]) rfl ⟨taken6 HS.out, _, rfl⟩
      · subst hq
        have HS : Hid (spec s = some ⟨v.neg, s.extract v.i0 s.size, nothing, false, nothing⟩) := hF.out.symm.trans (by rw [hE]; rfl)
        have hJ : v.i0 ≤ s.size ∧ v.negx = false ∧ v.hasF = false ∧ v.hasX = false := hI.out
        obtain ⟨j0, j1, j2, j3⟩ := hJ
        clear hF hI hE
        rw [j1, j2, j3]
        clear j1 j2 j3
        go_wp2
        go_quiet (fail)
        go_wp2
        exact bodyPost_ret (v := .tuple #[.bool v.neg, .string (s.extract v.i0 s.size), .string ⟨#[]⟩, .bool false, .string ⟨#[]⟩, .bool true]) (by simp [results, Try.results10, go_sem]) rfl ⟨taken6 HS.out, _, rfl⟩
      · subst hq
        have HS : Hid (spec s = none) := hF.out.symm.trans (by rw [hE]; rfl)
        clear hF hI hE
        go_wp2
        exact bodyPost_ret (v := .tuple #[.bool false, .string ⟨#[]⟩, .string ⟨#[]⟩, .bool false, .string ⟨#[]⟩, .bool false]) (by simp [results, Try.results10, go_sem]) rfl ⟨refused6 HS.out, 0, rfl⟩
      · subst hq
        have HS : Hid (spec s = some ⟨v.neg, s.extract v.i0 v.i1, s.extract v.f0 s.size, false, nothing⟩) := hF.out.symm.trans (by rw [hE]; rfl)
        have hJ : v.i0 ≤ v.i1 ∧ v.i1 ≤ s.size ∧ v.negx = false ∧ v.hasF = true ∧ v.hasX = false ∧ v.f0 ≤ s.size := hI.out
        obtain ⟨j0, j1, j2, j3, j4, j5⟩ := hJ
        clear hF hI hE
        rw [j2, j3, j4]
        clear j2 j3 j4
        go_wp2
        go_quiet (fail)
        go_wp2
        exact bodyPost_ret (v := .tuple #[.bool v.neg, .string (s.extract v.i0 v.i1), .string (s.extract v.f0 s.size), .bool false, .string ⟨#[]⟩, .bool true]) (by simp [results, Try.results10, go_sem]) rfl ⟨taken6 HS.out, _, rfl⟩
      · subst hq
        have HS : Hid (spec s = none) := hF.out.symm.trans (by rw [hE]; rfl)
        clear hF hI hE
        go_wp2
        exact bodyPost_ret (v := .tuple #[.bool false, .string ⟨#[]⟩, .string ⟨#[]⟩, .bool false, .string ⟨#[]⟩, .bool false]) (by simp [results, Try.results10, go_sem]) rfl ⟨refused6 HS.out, 0, rfl⟩
      · subst hq
        have HS : Hid (spec s = none) := hF.out.symm.trans (by rw [hE]; rfl)
        clear hF hI hE
        go_wp2
        exact bodyPost_ret (v := .tuple #[.bool false, .string ⟨#[]⟩, .string ⟨#[]⟩, .bool false, .string ⟨#[]⟩, .bool false]) (by simp [results, Try.results10, go_sem]) rfl ⟨refused6 HS.out, 0, rfl⟩
      · subst hq
        have hJ : v.i0 ≤ v.i1 ∧ v.i1 ≤ s.size ∧ (v.hasF = true → v.f0 ≤ v.f1 ∧ v.f1 ≤ s.size) ∧ v.hasX = true ∧ v.x0 ≤ s.size := hI.out
        obtain ⟨j0, j1, j2, j3, j4⟩ := hJ
        cases hh : v.hasF with
        | true =>
          obtain ⟨l0, l1⟩ := j2 hh
          have HS : Hid (spec s = some ⟨v.neg, s.extract v.i0 v.i1, s.extract v.f0 v.f1, v.negx, s.extract v.x0 s.size⟩) := hF.out.symm.trans (by rw [hE, e8]; simp [Vars.frac, hh])
          clear hF hI hE j2
          rw [j3]
          clear j3
          go_wp2
          go_quiet (fail)
          go_wp2
          exact bodyPost_ret (v := .tuple #[.bool v.neg, .string (s.extract v.i0 v.i1), .string (s.extract v.f0 v.f1), .bool v.negx, .string (s.extract v.x0 s.size), .bool true]) (by simp [results, Try.results10, go_sem]) rfl ⟨taken6 HS.out, _, rfl⟩
        | false =>
          have HS : Hid (spec s = some ⟨v.neg, s.extract v.i0 v.i1, nothing, v.negx, s.extract v.x0 s.size⟩) := hF.out.symm.trans (by rw [hE, e8]; simp [Vars.frac, hh])
          clear hF hI hE j2
          rw [j3]
          clear j3
          go_wp2
          go_quiet (fail)
          go_wp2
          exact bodyPost_ret (v := .tuple #[.bool v.neg, .string (s.extract v.i0 v.i1), .string ⟨#[]⟩, .bool v.negx, .string (s.extract v.x0 s.size), .bool true]) (by simp [results, Try.results10, go_sem]) rfl ⟨taken6 HS.out, _, rfl⟩
end Go.Proofs.Qxb6602829a.Split
