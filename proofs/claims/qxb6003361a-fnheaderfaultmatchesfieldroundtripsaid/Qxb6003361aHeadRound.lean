/-
  zzFieldRoundTrips: the walk.
-/
import Derived.Test.Qxb6003361aHeadWalk
import Derived.Lib.Strings
namespace Go.Proofs.Qxb6003361a.Head
open Go.RowKit

theorem data_append (a b : ByteArray) : (a ++ b).data.toList = a.data.toList ++ b.data.toList := by simp [ByteArray.data_append]

def lf (l : List UInt8) : List UInt8 := l.takeWhile fun c => c.toNat != 10

/-! ### Loop 1: the line's end -/
theorem last_lf (s ln : ByteArray) (h : ln.data.toList = line s.data.toList) (k : Nat) (hk : k < ln.size) (hne : ((ln[k].toNat : Int) != 10) = true) : k + 1 < ln.size := by
  by_cases e : k + 1 < ln.size
  · exact e
  have hl : ln.data.toList.getLast? = some 10 := by rw [h]; unfold line; rw [show [75, 58, 32] ++ s.data.toList ++ [13, 10] = ([75, 58, 32] ++ s.data.toList ++ [13]) ++ [(10 : UInt8)] by simp]; exact List.getLast?_concat ..
  have hp : 0 < ln.size := by omega
  rw [last_of ln hp] at hl
  have e2 : k = ln.size - 1 := by omega
  subst e2
  simp only [Option.some.injEq] at hl
  rw [hl] at hne
  exact absurd hne (by decide)
theorem noLf_succ (ln : ByteArray) (k : Nat) (hk : k < ln.size) (hp : ∀ c ∈ ln.data.toList.take k, c.toNat ≠ 10) (hne : ((ln[k].toNat : Int) != 10) = true) : ∀ c ∈ ln.data.toList.take (k + 1), c.toNat ≠ 10 := by
  rw [List.take_succ_eq_append_getElem (by simpa using hk)]
  intro c hc
  have e : ln.data.toList[k]'(by simpa using hk) = ln[k] := rfl
  simp only [List.mem_append, List.mem_singleton] at hc
  rcases hc with hc | rfl
  · exact hp c hc
  · rw [e]
    intro e'
    rw [e'] at hne
    exact absurd hne (by decide)
theorem lf_at (ln : ByteArray) (k : Nat) (hk : k < ln.size) (hp : ∀ c ∈ ln.data.toList.take k, c.toNat ≠ 10) (he : ((ln[k].toNat : Int) != 10) = false) : lf ln.data.toList = ln.data.toList.take k := by
  have e : ln.data.toList[k]'(by simpa using hk) = ln[k] := rfl
  have h1 : ln.data.toList = ln.data.toList.take k ++ ln.data.toList.drop k := (List.take_append_drop ..).symm
  have h2 : ln.data.toList.drop k = ln[k] :: ln.data.toList.drop (k + 1) := by rw [List.drop_eq_getElem_cons (by simpa using hk), e]
  unfold lf
  conv => lhs; rw [h1]
  rw [List.takeWhile_append_of_pos (by intro c hc; simpa using hp c hc), h2, List.takeWhile_cons_of_neg]
  · simp
  · simp only [bne_eq_false_iff_eq] at he
    have : ln[k].toNat = 10 := by omega
    simp [this]

theorem idx (v : ByteArray) (i : Nat) (h : i < v.size) : v.data.toList[i]? = some v[i] := by
  rw [List.getElem?_eq_getElem (by simpa using h)]
  rfl
theorem three_le (s ln : ByteArray) (h : ln.data.toList = line s.data.toList) (k : Nat) (hk : k < ln.size) (he : ((ln[k].toNat : Int) != 10) = false) : 3 ≤ k := by
  have h1 := idx ln k hk
  rw [h] at h1
  match k, hk, he, h1 with
  | 0, hk, he, h1 => simp [line] at h1; rw [← h1] at he; exact absurd he (by decide)
  | 1, hk, he, h1 => simp [line] at h1; rw [← h1] at he; exact absurd he (by decide)
  | 2, hk, he, h1 => simp [line] at h1; rw [← h1] at he; exact absurd he (by decide)
  | k + 3, _, _, _ => omega
theorem size_upto (ln : ByteArray) (k : Nat) (hk : k < ln.size) : (ln.extract 0 k).size = k := by rw [ByteArray.size_extract]; omega
theorem data_upto (ln : ByteArray) (k : Nat) : (ln.extract 0 k).data.toList = ln.data.toList.take k := by rw [Lib.extract_data]; simp

theorem getLast_upto (ln : ByteArray) (k : Nat) (hk : k < ln.size) (hk3 : 3 ≤ k) (hi : min k ln.size - 1 < (ln.extract 0 k).size) : (ln.data.toList.take k).getLast? = some (ln.extract 0 k)[min k ln.size - 1] := by
  rw [← data_upto, List.getLast?_eq_getElem?, ← idx _ _ hi]
  congr 1
  have := size_upto ln k hk
  have e : (ln.extract 0 k).data.toList.length = (ln.extract 0 k).size := by simp
  omega

theorem start_cr (ln : ByteArray) (k : Nat) (hk : k < ln.size) (hk3 : 3 ≤ k) (HC : lf ln.data.toList = ln.data.toList.take k) (hi : min k ln.size - 1 < (ln.extract 0 k).size)
    (h : (((ln.extract 0 k)[min k ln.size - 1].toNat : Int) == 13) = true) :
    (((ln.extract 0 k).extract 0 (min k ln.size - 1)).extract 2 (min k ln.size - 1)).data.toList = (cutCr (lf ln.data.toList)).drop 2 := by
  have hl := getLast_upto ln k hk hk3 hi
  have hm : min k ln.size = k := by omega
  have h13 : (ln.extract 0 k)[min k ln.size - 1] = 13 := UInt8.toNat_inj.1 (by simp only [beq_iff_eq] at h; show _ = 13; omega)
  rw [h13] at hl
  rw [HC, cutCr, if_pos hl, Lib.extract_data, data_upto, data_upto, hm, List.dropLast_eq_take, List.take_take]
  have e : (ln.data.toList.take k).length = k := by simp; omega
  rw [e, List.take_take, Nat.min_eq_left (by omega), List.take_of_length_le (by simp; omega)]

theorem start_no (ln : ByteArray) (k : Nat) (hk : k < ln.size) (hk3 : 3 ≤ k) (HC : lf ln.data.toList = ln.data.toList.take k) (hi : min k ln.size - 1 < (ln.extract 0 k).size)
    (h : (((ln.extract 0 k)[min k ln.size - 1].toNat : Int) == 13) = false) :
    ((ln.extract 0 k).extract 2 (min k ln.size)).data.toList = (cutCr (lf ln.data.toList)).drop 2 := by
  have hl := getLast_upto ln k hk hk3 hi
  have hm : min k ln.size = k := by omega
  have h13 : ¬ (ln.data.toList.take k).getLast? = some 13 := by
    rw [hl]
    intro e
    simp only [Option.some.injEq] at e
    rw [e] at h
    exact absurd h (by decide)
  rw [HC, cutCr, if_neg h13, Lib.extract_data, data_upto, hm, List.take_of_length_le (by simp; omega)]

/-! ### Loops 2 and 3: the blanks at both ends -/
theorem blank_cases {c : UInt8} (h : blank c = true) : (c.toNat : Int) = 32 ∨ (c.toNat : Int) = 9 := by
  simpa [blank] using h
theorem cons_of (v : ByteArray) (h : 0 < v.size) : v.data.toList = v[0] :: v.data.toList.drop 1 := by
  have e : v.data.toList[0]'(by simpa using h) = v[0] := rfl
  conv => lhs; rw [← List.drop_zero (l := v.data.toList), List.drop_eq_getElem_cons (by simpa using h), e]
theorem tail_of (v : ByteArray) : (v.extract 1 v.size).data.toList = v.data.toList.drop 1 := by
  rw [Lib.extract_data, List.take_of_length_le (by simp)]
theorem trim_step (v : ByteArray) (h : 0 < v.size) (hb : blank v[0] = true) : (v.extract 1 v.size).data.toList.dropWhile blank = v.data.toList.dropWhile blank := by
  rw [tail_of]
  conv => rhs; rw [cons_of v h, List.dropWhile_cons_of_pos hb]
theorem trim_out (v : ByteArray) (h : 0 < v.size) (hb : blank v[0] = false) : v.data.toList.dropWhile blank = v.data.toList := by
  rw [cons_of v h, List.dropWhile_cons_of_neg (by simp [hb])]
theorem nil_of (v : ByteArray) (h : ¬ 0 < v.size) : v.data.toList = [] := List.length_eq_zero_iff.1 (by simp at *; exact h)
theorem trim_nil (v : ByteArray) (h : ¬ 0 < v.size) : v.data.toList.dropWhile blank = v.data.toList := by rw [nil_of v h]; rfl
theorem rtrim_step (v : ByteArray) (h : 0 < v.size) (hb : blank v[v.size - 1] = true) : rtrim (v.extract 0 (v.size - 1)).data.toList = rtrim v.data.toList := by
  have hs := last_of v h
  have e : v.data.toList = v.data.toList.dropLast ++ [v[v.size - 1]] := by
    have hne : v.data.toList ≠ [] := by intro e; rw [e] at hs; cases hs
    have := List.dropLast_concat_getLast hne
    rw [List.getLast?_eq_some_getLast hne] at hs
    rw [Option.some.inj hs] at this
    exact this.symm
  have e2 : (v.extract 0 (v.size - 1)).data.toList = v.data.toList.dropLast := by
    rw [data_upto, List.dropLast_eq_take]
    simp
  rw [e2]
  conv => rhs; rw [e]
  unfold rtrim
  rw [List.reverse_append]
  simp [hb]
theorem rtrim_out (v : ByteArray) (h : 0 < v.size) (hb : blank v[v.size - 1] = false) : rtrim v.data.toList = v.data.toList :=
  (rtrim_eq_self _).2 (by rw [last_of v h]; exact hb)
theorem rtrim_nil (v : ByteArray) (h : ¬ 0 < v.size) : rtrim v.data.toList = v.data.toList := by rw [nil_of v h]; rfl

/-! ### Loop 4, and the end -/
theorem blank_not {c : UInt8} (h : ¬ blank c = true) : ((c.toNat : Int) == 32) = false ∧ ((c.toNat : Int) == 9) = false := by
  simpa [blank] using h
theorem ctl_tab {c : UInt8} (h : (c.toNat : Int) = 9) : ctl c = false := by simp [ctl, h]
theorem ctl_low {c : UInt8} (h : (c.toNat : Int) < 32) (h' : ¬ (c.toNat : Int) = 9) : ctl c = true := by simp [ctl, h, h']
theorem ctl_del {c : UInt8} (h : ((c.toNat : Int) == 127) = true) : ctl c = true := by simp [ctl, h]
theorem ctl_not {c : UInt8} (h : ¬ (c.toNat : Int) < 32) (h' : ((c.toNat : Int) == 127) = false) : ctl c = false := by
  simp only [ctl, h', decide_eq_false h]; rfl
theorem value_of (s ln v : ByteArray) (h : ln.data.toList = line s.data.toList) (hv : v.data.toList = ((cutCr (lf ln.data.toList)).drop 2).dropWhile blank) : rtrim v.data.toList = value s.data.toList := by
  rw [hv, h]
  rfl
theorem fin_true (s u : ByteArray) (hu : u.data.toList = value s.data.toList) (h : u.data.toList.all (fun c => !ctl c) = true) : (u.toList == s.toList) = roundKey s.data.toList := by
  rw [ByteArray.toList_eq, ByteArray.toList_eq, roundKey, ← hu, h, Bool.true_and]
theorem fin_false (s u : ByteArray) (j : Nat) (hj : j < u.size) (hu : u.data.toList = value s.data.toList) (hc : ctl u[j] = true) : false = roundKey s.data.toList := by
  rw [roundKey, ← hu, all_bad u j hj hc, Bool.false_and]

def strOf (v : Value) : ByteArray := match v with | .string s => s | _ => ByteArray.empty

set_option maxHeartbeats 4000000 in
theorem round_any (s : ByteArray) (w : World) (hs : s.size ≤ 1048576) :
    Calls Try.prog 29 #[.string s] w fun e w' => e = .returned (.bool (roundKey s.data.toList)) ∧ w' = w := by
  go_enter Try.func29, Try.ntmps29
  go_wp2
  obtain ⟨ln, hln⟩ : ∃ ln : ByteArray, ln = { data := #[75, 58, 32] } ++ s ++ { data := #[13, 10] } := ⟨_, rfl⟩
  rw [← hln]
  have HL : Hid (ln.data.toList = line s.data.toList) := by rw [hln, data_append, data_append]; exact rfl
  have hz : ln.size = s.size + 5 := by rw [hln, ByteArray.size_append, ByteArray.size_append]; show 3 + s.size + 2 = _; omega
  have hz1 : ln.size ≤ s.size + 5 := by omega
  have hz2 : s.size + 5 ≤ ln.size := by omega
  clear hln hz
  go_loop [4] (fun i => ∃ k : Nat, k < ln.size ∧ i = .int .i64 k ∧ Hid (∀ c ∈ ln.data.toList.take k, c.toNat ≠ 10)) (fun i => ln.size - (intOf i).toNat)
  case atStart => exact ⟨0, by omega, rfl, by intro c hc; simp at hc⟩
  case round =>
    obtain ⟨k, hk, rfl, hpre⟩ := hrel
    cases hne : ((ln[k].toNat : Int) != 10) with
    | true =>
      have hk1 := last_lf s ln HL.out k hk hne
      go_wp2
      go_round
      case rel => exact ⟨k + 1, hk1, by go_num, noLf_succ ln k hk hpre.out hne⟩
      case measure => simp [intOf]; omega
    | false =>
      have HC : Hid (lf ln.data.toList = ln.data.toList.take k) := lf_at ln k hk hpre.out hne
      have hk3 : 3 ≤ k := three_le s ln HL.out k hk hne
      clear hpre
      go_wp2
      all_goals
        go_loop [6] (fun t => ∃ v : ByteArray, t = .string v ∧ v.size ≤ 2097152 ∧ Hid (v.data.toList.dropWhile blank = ((cutCr (lf ln.data.toList)).drop 2).dropWhile blank)) (fun t => (strOf t).size)
        case atStart => first | exact ⟨_, rfl, by simp; omega, congrArg (List.dropWhile blank) (start_cr ln k hk hk3 HC.out _ (by assumption))⟩ | exact ⟨_, rfl, by simp; omega, congrArg (List.dropWhile blank) (start_no ln k hk hk3 HC.out _ (by assumption))⟩
        case round =>
          obtain ⟨v, rfl, hvs, hv⟩ := hrel
          by_cases hv0 : 0 < v.size
          · by_cases hbv : blank v[0] = true
            · have hst : Hid ((v.extract 1 v.size).data.toList.dropWhile blank = ((cutCr (lf ln.data.toList)).drop 2).dropWhile blank) := (trim_step v hv0 hbv).trans hv.out
              have hbb := blank_cases hbv
              clear hbv
              rcases hbb with hbb | hbb
              all_goals
                go_wp2
                go_round
                case rel => exact ⟨_, rfl, by simp; omega, hst⟩
                case measure => simp [strOf]; omega
            · have hv1 : Hid (v.data.toList = ((cutCr (lf ln.data.toList)).drop 2).dropWhile blank) := (trim_out v hv0 (by simpa using hbv)).symm.trans hv.out
              obtain ⟨hb1, hb2⟩ := blank_not hbv
              clear hbv hv
              go_wp2
              go_loop [6] (fun t => ∃ u : ByteArray, t = .string u ∧ u.size ≤ 2097152 ∧ Hid (rtrim u.data.toList = value s.data.toList)) (fun t => (strOf t).size)
              case atStart => exact ⟨v, rfl, hvs, value_of s ln v HL.out hv1.out⟩
              case round =>
                obtain ⟨u, rfl, hus, hu0⟩ := hrel
                by_cases hup : 0 < u.size
                · by_cases hbu : blank u[u.size - 1] = true
                  · have hst : Hid (rtrim (u.extract 0 (u.size - 1)).data.toList = value s.data.toList) := (rtrim_step u hup hbu).trans hu0.out
                    have hbb := blank_cases hbu
                    clear hbu
                    rcases hbb with hbb | hbb
                    all_goals
                      go_wp2
                      go_round
                      case rel => exact ⟨_, rfl, by simp; omega, hst⟩
                      case measure => simp [strOf]; omega
                  · have hu : Hid (u.data.toList = value s.data.toList) := (rtrim_out u hup (by simpa using hbu)).symm.trans hu0.out
                    obtain ⟨hb1, hb2⟩ := blank_not hbu
                    clear hbu hu0
                    go_wp2
                    go_loop [7] (fun i => ∃ j : Nat, j ≤ u.size ∧ i = .int .i64 j ∧ Hid ((u.data.toList.take j).all (fun c => !ctl c) = true)) (fun i => u.size - (intOf i).toNat)
                    case atStart => exact ⟨0, Nat.zero_le _, rfl, rfl⟩
                    case round =>
                      obtain ⟨j, hj, rfl, hpre⟩ := hrel
                      by_cases hlt : j < u.size
                      · go_wp2
                        · have hc : ctl u[j] = false := ctl_tab (by assumption)
                          go_round
                          case rel => exact ⟨j + 1, by omega, by go_num, all_take_succ u j hlt hpre.out hc⟩
                          case measure => simp [intOf]; omega
                        · have hc : ctl u[j] = true := ctl_low (by assumption) (by assumption)
                          go_ret
                          exact ⟨ret_bool (fin_false s u j hlt hu.out hc), rfl⟩
                        · have hc : ctl u[j] = true := ctl_del (by assumption)
                          go_ret
                          exact ⟨ret_bool (fin_false s u j hlt hu.out hc), rfl⟩
                        · have hc : ctl u[j] = false := ctl_not (by assumption) (by assumption)
                          go_round
                          case rel => exact ⟨j + 1, by omega, by go_num, all_take_succ u j hlt hpre.out hc⟩
                          case measure => simp [intOf]; omega
                      · go_wp2
                        go_ret
                        exact ⟨ret_bool (fin_true s u hu.out (all_of_take u j hlt hpre.out)), rfl⟩
                · have hu : Hid (u.data.toList = value s.data.toList) := (rtrim_nil u hup).symm.trans hu0.out
                  clear hu0
                  go_wp2
                  go_loop [7] (fun i => ∃ j : Nat, j ≤ u.size ∧ i = .int .i64 j ∧ Hid ((u.data.toList.take j).all (fun c => !ctl c) = true)) (fun i => u.size - (intOf i).toNat)
                  case atStart => exact ⟨0, Nat.zero_le _, rfl, rfl⟩
                  case round =>
                    obtain ⟨j, hj, rfl, hpre⟩ := hrel
                    by_cases hlt : j < u.size
                    · omega
                    · go_wp2
                      go_ret
                      exact ⟨ret_bool (fin_true s u hu.out (all_of_take u j hlt hpre.out)), rfl⟩
          · have hv1 : Hid (v.data.toList = ((cutCr (lf ln.data.toList)).drop 2).dropWhile blank) := (trim_nil v hv0).symm.trans hv.out
            clear hv
            go_wp2
            go_loop [6] (fun t => ∃ u : ByteArray, t = .string u ∧ u.size ≤ 2097152 ∧ Hid (rtrim u.data.toList = value s.data.toList)) (fun t => (strOf t).size)
            case atStart => exact ⟨v, rfl, hvs, value_of s ln v HL.out hv1.out⟩
            case round =>
              obtain ⟨u, rfl, hus, hu0⟩ := hrel
              by_cases hup : 0 < u.size
              · by_cases hbu : blank u[u.size - 1] = true
                · have hst : Hid (rtrim (u.extract 0 (u.size - 1)).data.toList = value s.data.toList) := (rtrim_step u hup hbu).trans hu0.out
                  have hbb := blank_cases hbu
                  clear hbu
                  rcases hbb with hbb | hbb
                  all_goals
                    go_wp2
                    go_round
                    case rel => exact ⟨_, rfl, by simp; omega, hst⟩
                    case measure => simp [strOf]; omega
                · have hu : Hid (u.data.toList = value s.data.toList) := (rtrim_out u hup (by simpa using hbu)).symm.trans hu0.out
                  obtain ⟨hb1, hb2⟩ := blank_not hbu
                  clear hbu hu0
                  go_wp2
                  go_loop [7] (fun i => ∃ j : Nat, j ≤ u.size ∧ i = .int .i64 j ∧ Hid ((u.data.toList.take j).all (fun c => !ctl c) = true)) (fun i => u.size - (intOf i).toNat)
                  case atStart => exact ⟨0, Nat.zero_le _, rfl, rfl⟩
                  case round =>
                    obtain ⟨j, hj, rfl, hpre⟩ := hrel
                    by_cases hlt : j < u.size
                    · go_wp2
                      · have hc : ctl u[j] = false := ctl_tab (by assumption)
                        go_round
                        case rel => exact ⟨j + 1, by omega, by go_num, all_take_succ u j hlt hpre.out hc⟩
                        case measure => simp [intOf]; omega
                      · have hc : ctl u[j] = true := ctl_low (by assumption) (by assumption)
                        go_ret
                        exact ⟨ret_bool (fin_false s u j hlt hu.out hc), rfl⟩
                      · have hc : ctl u[j] = true := ctl_del (by assumption)
                        go_ret
                        exact ⟨ret_bool (fin_false s u j hlt hu.out hc), rfl⟩
                      · have hc : ctl u[j] = false := ctl_not (by assumption) (by assumption)
                        go_round
                        case rel => exact ⟨j + 1, by omega, by go_num, all_take_succ u j hlt hpre.out hc⟩
                        case measure => simp [intOf]; omega
                    · go_wp2
                      go_ret
                      exact ⟨ret_bool (fin_true s u hu.out (all_of_take u j hlt hpre.out)), rfl⟩
              · have hu : Hid (u.data.toList = value s.data.toList) := (rtrim_nil u hup).symm.trans hu0.out
                clear hu0
                go_wp2
                go_loop [7] (fun i => ∃ j : Nat, j ≤ u.size ∧ i = .int .i64 j ∧ Hid ((u.data.toList.take j).all (fun c => !ctl c) = true)) (fun i => u.size - (intOf i).toNat)
                case atStart => exact ⟨0, Nat.zero_le _, rfl, rfl⟩
                case round =>
                  obtain ⟨j, hj, rfl, hpre⟩ := hrel
                  by_cases hlt : j < u.size
                  · omega
                  · go_wp2
                    go_ret
                    exact ⟨ret_bool (fin_true s u hu.out (all_of_take u j hlt hpre.out)), rfl⟩
end Go.Proofs.Qxb6003361a.Head
