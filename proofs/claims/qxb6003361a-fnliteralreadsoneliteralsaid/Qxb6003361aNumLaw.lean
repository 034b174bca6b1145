/-
  FnLexNumberMaximalMunch: the stages of a number, ZZLexNumber, the walk of the law.
-/
import Derived.Test.Qxb6003361aLexNum
import Derived.Test.Qxb6003361aNumDfa
import Derived.Test.Qxb6003361aClone
namespace Go.Proofs.Qxb6003361a.Num
open Go.RowKit

/-! ### The stages, by places -/
theorem isB_cons {zs t : List Int} {p : Nat} {d : Int} (h : zs.drop p = d :: t) (c : Int) : isB zs p c = (d == c) := by
  have hp : p < zs.length := by
    rcases Nat.lt_or_ge p zs.length with hlt | hge
    · exact hlt
    · rw [List.drop_of_length_le hge] at h; cases h
  have e : zs.getD p 0 = d := by
    rw [drop_getD hp] at h
    exact (List.cons.inj h).1
  unfold isB
  rw [e, decide_eq_true hp, Bool.true_and]
theorem isB_nil {zs : List Int} {p : Nat} (h : zs.drop p = []) (c : Int) : isB zs p c = false := by
  have hp : ¬ p < zs.length := by
    intro hp
    rw [drop_getD hp] at h
    cases h
  simp [isB, hp]
theorem drop_next {zs t : List Int} {p : Nat} {d : Int} (h : zs.drop p = d :: t) : zs.drop (p + 1) = t := by
  rw [← List.drop_drop, h]
  rfl
theorem drop_far {zs l : List Int} {p : Nat} (k : Nat) (h : zs.drop p = l) : zs.drop (p + k) = l.drop k := by
  rw [← List.drop_drop, h]

theorem digTo {zs l : List Int} {p d : Nat} (h : zs.drop p = l) (hd : dig l = some d) : DigTo zs p (p + d) := by
  unfold dig at hd
  by_cases h0 : dlen l = 0
  · rw [if_pos h0] at hd; cases hd
  · rw [if_neg h0] at hd
    unfold DigTo
    rw [h]
    have : dlen l = d := Option.some.inj hd
    omega

theorem st4 {zs l : List Int} {p m : Nat} (h : zs.drop p = l) (hm : c4 l = some m) : S4 zs p (p + m) := by
  unfold S4
  cases l with
  | nil =>
    have : 0 = m := Option.some.inj hm
    rw [isB_nil h, isB_nil h]
    simp only [Bool.or_false, Bool.false_eq_true, if_false]
    omega
  | cons c t =>
    rw [isB_cons h, isB_cons h]
    by_cases he : c = 101 ∨ c = 69
    · rw [if_pos (by simpa using he)]
      simp only [c4, if_pos he] at hm
      have hnx := drop_next h
      cases t with
      | nil => simp [expo] at hm
      | cons d u =>
        by_cases hs : d = 43 ∨ d = 45
        · simp only [expo, if_pos hs, Option.map_map, Option.map_eq_some_iff] at hm
          obtain ⟨k, hk, hkm⟩ := hm
          simp only [Function.comp_apply] at hkm
          have hs2 : sgn zs (p + 1) = p + 1 + 1 := by
            unfold sgn
            rw [isB_cons hnx, isB_cons hnx, if_pos (by simpa using hs)]
          rw [hs2]
          have := digTo (drop_next hnx) hk
          rwa [show p + 1 + 1 + k = p + m by omega] at this
        · simp only [expo, if_neg hs, Option.map_eq_some_iff] at hm
          obtain ⟨k, hk, hkm⟩ := hm
          have hs2 : sgn zs (p + 1) = p + 1 := by
            unfold sgn
            rw [isB_cons hnx, isB_cons hnx, if_neg (by simpa using hs)]
          rw [hs2]
          have := digTo hnx hk
          rwa [show p + 1 + k = p + m by omega] at this
    · rw [if_neg (by simpa using he)]
      simp only [c4, if_neg he] at hm
      have : 0 = m := Option.some.inj hm
      omega

theorem st3 {zs l : List Int} {p m : Nat} (h : zs.drop p = l) (hm : c3 l = some m) : ∃ q, S3 zs p q ∧ S4 zs q (p + m) := by
  cases l with
  | nil =>
    have h0 : 0 = m := Option.some.inj hm
    refine ⟨p, ?_, st4 h (by rw [← h0]; rfl)⟩
    unfold S3
    rw [isB_nil h]
    simp
  | cons c t =>
    by_cases hc : c = 46
    · simp only [c3, if_pos hc, Option.bind_eq_some_iff, Option.map_eq_some_iff] at hm
      obtain ⟨d, hd, k, hk, hkm⟩ := hm
      refine ⟨p + 1 + d, ?_, ?_⟩
      · unfold S3
        rw [isB_cons h, if_pos (by simpa using hc)]
        exact digTo (drop_next h) hd
      · have := st4 (drop_far d (drop_next h)) hk
        rwa [show p + 1 + d + k = p + m by omega] at this
    · simp only [c3, if_neg hc] at hm
      refine ⟨p, ?_, st4 h hm⟩
      unfold S3
      rw [isB_cons h, if_neg (by simpa using hc)]

theorem st2 {zs l : List Int} {p m : Nat} (h : zs.drop p = l) (hm : c2 l = some m) : ∃ q r, S2 zs p q ∧ S3 zs q r ∧ S4 zs r (p + m) := by
  cases l with
  | nil => simp [c2] at hm
  | cons c t =>
    by_cases hc : c = 48
    · simp only [c2, if_pos hc, Option.map_eq_some_iff] at hm
      obtain ⟨k, hk, hkm⟩ := hm
      obtain ⟨r, h3, h4⟩ := st3 (drop_next h) hk
      refine ⟨p + 1, r, ?_, h3, ?_⟩
      · unfold S2
        rw [isB_cons h, if_pos (by simpa using hc)]
      · rwa [show p + 1 + k = p + m by omega] at h4
    · simp only [c2, if_neg hc, Option.bind_eq_some_iff, Option.map_eq_some_iff] at hm
      obtain ⟨d, hd, k, hk, hkm⟩ := hm
      obtain ⟨r, h3, h4⟩ := st3 (drop_far d h) hk
      refine ⟨p + d, r, ?_, h3, ?_⟩
      · unfold S2
        rw [isB_cons h, if_neg (by simpa using hc)]
        exact digTo h hd
      · rwa [show p + d + k = p + m by omega] at h4

/-- A number of m bytes stands at p: the lexer's four stages. -/
theorem stages {zs : List Int} {p m : Nat} (hm : num (zs.drop p) = some m) : ∃ p1 p2 p3, S1 zs p p1 ∧ S2 zs p1 p2 ∧ S3 zs p2 p3 ∧ S4 zs p3 (p + m) := by
  cases h : zs.drop p with
  | nil => rw [h] at hm; simp [num] at hm
  | cons c t =>
    rw [h] at hm
    by_cases hc : c = 45
    · simp only [num, if_pos hc, Option.map_eq_some_iff] at hm
      obtain ⟨k, hk, hkm⟩ := hm
      obtain ⟨q, r, h2, h3, h4⟩ := st2 (drop_next h) hk
      refine ⟨p + 1, q, r, ?_, h2, h3, ?_⟩
      · unfold S1
        rw [isB_cons h, if_pos (by simpa using hc)]
      · rwa [show p + 1 + k = p + m by omega] at h4
    · simp only [num, if_neg hc] at hm
      obtain ⟨q, r, h2, h3, h4⟩ := st2 h hm
      refine ⟨p, q, r, ?_, h2, h3, h4⟩
      unfold S1
      rw [isB_cons h, if_neg (by simpa using hc)]

/-! ### ZZLexNumber -/
theorem lex_new {w : World} {g len cap p : Nat} {zs : List Int} (hg : g < w.heap.size) (hl : zs.length = len) (hc : ∀ i, i < len → w.cell? ⟨g, i, none⟩ = some (.int .u8 (zs.getD i 0))) (hp : p ≤ len) (hs : len ≤ 1048577) :
    LexAt (w.alloc (.cells #[.slice (some ⟨g, 0, none⟩) len cap, .int .i64 p, .int .u8 0, .slice none 0 0] 63)) w.heap.size g len cap zs p 0 where
  text := by simp [go_sem]
  here := by simp [go_sem]
  owed := by simp [go_sem]
  stack := by simp [go_sem]
  free1 := by simp [go_sem]
  free2 := by simp [go_sem]
  size := by simp
  lt := hg
  long := hl
  row := fun i hi => by rw [World.cell?_alloc_past _ _ _ hg]; exact hc i hi
  le := hp
  small := hs

set_option maxHeartbeats 800000 in
theorem lexnum_any {w : World} {g len cap p m : Nat} {zs : List Int} (hg : g < w.heap.size) (hl : zs.length = len) (hc : ∀ i, i < len → w.cell? ⟨g, i, none⟩ = some (.int .u8 (zs.getD i 0))) (hp : p ≤ len) (hs : len ≤ 1048577)
    (hm : num (zs.drop p) = some m) :
    Calls Try.prog 13 #[.slice (some ⟨g, 0, none⟩) len cap, .int .i64 p] w fun e w' => e = .returned (.int .i64 ((p + m : Nat) : Int)) ∧ Below w.heap.size w w' := by
  have hx := lex_new (cap := cap) hg hl hc hp hs
  obtain ⟨p1, p2, p3, q1, q2, q3, q4⟩ := stages hm
  clear hc hl hm
  go_enter Try.func13, Try.ntmps13
  go_wp2_with fail
  refine (number_any hx q1 q2 q3 q4).mono ?_
  rintro e w2 ⟨rfl, hy, hb⟩
  have h1 := hy.here
  have HB : Hid (Below w.heap.size w w2) := ((Below.refl w.heap.size w).alloc (Nat.le_refl _) _).trans hb
  clear hb hx hy q1 q2 q3 q4
  go_wp2
  go_ret
  exact ⟨rfl, HB.out⟩

/-! ### The law -/
theorem cut_num {zs : List Int} {p : Nat} (h : Acc (dfa (zs.drop p) 0).2) : num (zs.drop p) = some (dfa (zs.drop p) 0).1 ∧ num ((zs.take (p + (dfa (zs.drop p) 0).1)).drop p) = some (dfa (zs.drop p) 0).1 := by
  refine ⟨dfa0 _ h, ?_⟩
  have e : (zs.take (p + (dfa (zs.drop p) 0).1)).drop p = (zs.drop p).take (dfa (zs.drop p) 0).1 := by
    rw [List.drop_take]
    congr 1
    omega
  have hc := dfa_cut (zs.drop p) 0
  rw [e, dfa0 _ (by rw [hc]; exact h), hc]
theorem num_pos {l : List Int} {m : Nat} (h : num l = some m) : l ≠ [] := by
  intro e
  rw [e] at h
  cases h

theorem bytes_yes (a : Option Addr) (len cap : Nat) (p : Int) (w : World) (hm : len ≤ 1048576) : Calls Try.prog 10 #[.slice a len cap, .int .i64 p] w fun e w' => e = .returned (.bool true) ∧ w' = w := by
  go_enter Try.func10, Try.ntmps10
  go_wp2
  go_ret
  exact ⟨rfl, rfl⟩

theorem view_at {w w1 : World} {v : Value} {zs : List Int} {len : Nat} (hl : zs.length = len) (hp : 0 < len) (h : Row w1 w.heap.size v zs) :
    ∃ g c, v = .slice (some ⟨g, 0, none⟩) len c ∧ len ≤ c ∧ c ≤ maxLen ∧ w.heap.size ≤ g ∧ g < w1.heap.size ∧ ∀ i, i < len → w1.cell? ⟨g, i, none⟩ = some (.int .u8 (zs.getD i 0)) := by
  subst hl
  have h0 := h
  rcases h.2 with ⟨_, hz⟩ | ⟨g, cap, cur, rfl, hb, hg, hnc, hcm, _⟩
  · omega
  · exact ⟨g, cap, rfl, hnc, hcm, hb, (World.ownsRow.lt h0 g rfl).2, fun i hi => h0.cell rfl i hi⟩

set_option maxHeartbeats 1600000 in
theorem munch_acc (a : Option Addr) (len cap : Nat) (zs : List Int) (p : Nat) (w : World) (hs : Src w a zs) (hl : zs.length = len) (hn : a = none → len = 0) (hb : ∀ i, 0 ≤ zs.getD i 0 ∧ zs.getD i 0 ≤ 255) (hm : len ≤ 1048576) (hp : p ≤ len)
    (hacc : Acc (dfa (zs.drop p) 0).2) :
    Calls Try.prog 3 #[.slice a len cap, .int .i64 p] w fun e w' => e = .returned (.bool true) ∧ Below w.heap.size w w' := by
  obtain ⟨hn1, hn2⟩ := cut_num hacc
  have hB : accB (dfa (zs.drop p) 0).2 = true := by simp [accB, hacc]
  have hle := dfa_le (zs.drop p) 0
  have hpos : 0 < len := by
    have := num_pos hn1
    rcases Nat.eq_zero_or_pos len with h0 | h0
    · exfalso; apply this; rw [List.drop_of_length_le (by omega)]
    · exact h0
  have hdfa := dfa_any a len cap zs p w hs hl hb hm hp
  rw [hB] at hdfa
  obtain ⟨m, hmm⟩ : ∃ m, (dfa (zs.drop p) 0).1 = m := ⟨_, rfl⟩
  rw [hmm] at hn1 hn2 hle hdfa
  have hpm : p + m ≤ len := by simp at hle; omega
  clear hle hB hb hacc hmm
  go_enter Try.func3, Try.ntmps3
  go_wp2_with fail
  refine (bytes_yes a len cap p _ hm).mono ?_
  rintro e w' ⟨rfl, hww⟩
  obtain rfl : w = w' := hww.symm
  go_wp2_with fail
  refine hdfa.mono ?_
  rintro e w' ⟨rfl, hww⟩
  obtain rfl : w = w' := hww.symm
  clear hdfa
  go_wp2_with fail
  refine (copy_any a len cap zs _ hs hl hn (by omega)).mono ?_
  rintro e w1 ⟨⟨v, rfl, hrow⟩, hbel⟩
  obtain ⟨g, c, hv, hlc, hcm, hg1, hg2, hgc⟩ := view_at hl hpos hrow
  rw [hv]
  clear hv hrow
  have hnum := lexnum_any (cap := c) hg2 hl hgc hp (by omega) hn1
  have HG : Hid (∀ i, i < len → w1.cell? ⟨g, i, none⟩ = some (.int .u8 (zs.getD i 0))) := hgc
  clear hgc
  go_wp2_with fail
  refine hnum.mono ?_
  rintro e w2 ⟨rfl, hb2⟩
  clear hnum
  go_wp2_with fail
  have hz2 : w1.heap.size ≤ w2.heap.size := hb2.size
  have hlt2 : (zs.take (p + m)).length = p + m := by simp; omega
  have hsrc : Src w2 (some ⟨g, 0, none⟩) (zs.take (p + m)) := .inr ⟨g, 0, rfl, by omega, fun i hi => by
    rw [Nat.zero_add, hb2.cell (p := ⟨g, i, none⟩) hg2, HG.out i (by omega)]
    simp [List.getD, show i < p + m by omega]⟩
  refine (copy_any (some ⟨g, 0, none⟩) (p + m) c (zs.take (p + m)) _ hsrc hlt2 (fun h => by cases h) (by omega)).mono ?_
  rintro e w3 ⟨⟨v, rfl, hrow⟩, hb3⟩
  have hpos2 : 0 < p + m := by
    rcases Nat.eq_zero_or_pos (p + m) with h0 | h0
    · exfalso; apply num_pos hn2; rw [h0]; simp
    · exact h0
  obtain ⟨g3, c3, hv3, _, _, _, hg32, hgc3⟩ := view_at hlt2 hpos2 hrow
  rw [hv3]
  have hnum := lexnum_any (cap := c3) hg32 hlt2 hgc3 (by omega) (by omega) hn2
  have HB : Hid (Below w.heap.size w w3) := (hbel.trans (hb2.mono hbel.size)).trans (hb3.mono (by have := hbel.size; omega))
  have hz3 : w.heap.size ≤ w3.heap.size := HB.out.size
  clear hv3 hrow hsrc hgc3 HG hb3 hn1 hn2
  go_wp2_with fail
  refine hnum.mono ?_
  rintro e w4 ⟨rfl, hb4⟩
  have HB4 : Hid (Below w.heap.size w w4) := HB.out.trans (hb4.mono hz3)
  clear hnum hb4
  go_wp2
  go_ret
  exact ⟨rfl, HB4.out⟩

theorem bytes_of {zs : List Int} (h : ∀ n ∈ zs, (Lit.int .u8 n).wf = true) (len : Nat) (i : Nat) : 0 ≤ (zs.take len).getD i 0 ∧ (zs.take len).getD i 0 ≤ 255 := by
  rcases Nat.lt_or_ge i (zs.take len).length with hi | hi
  · have e : (zs.take len).getD i 0 = (zs.take len)[i] := by simp [List.getD, List.getElem?_eq_getElem hi]
    rw [e]
    exact bounds_u8 (h _ (List.mem_of_mem_take (List.getElem_mem hi)))
  · rw [List.getD, List.getElem?_eq_none hi]
    simp

/-- Every input. -/
theorem munch_law (a : Option Addr) (len cap : Nat) (zs : List Int) (at_ : Int) (w : World) (hs : Src w a zs) (hl : zs.length = len) (hn : a = none → len = 0) (hb : ∀ i, 0 ≤ zs.getD i 0 ∧ zs.getD i 0 ≤ 255) (hml : len ≤ maxLen) :
    Calls Try.prog 3 #[.slice a len cap, .int .i64 at_] w fun e w' => e = .returned (.bool true) ∧ Below w.heap.size w w' := by
  by_cases hm : len ≤ 1048576
  · by_cases h0 : at_ < 0
    · clear hs hl hn hb hml
      go_enter Try.func3, Try.ntmps3
      go_wp2_with fail
      refine (bytes_yes a len cap at_ _ hm).mono ?_
      rintro e w' ⟨rfl, rfl⟩
      go_wp2
      go_ret
      exact ⟨rfl, Below.refl _ _⟩
    by_cases h1 : (len : Int) < at_
    · clear hs hl hn hb hml
      go_enter Try.func3, Try.ntmps3
      go_wp2_with fail
      refine (bytes_yes a len cap at_ _ hm).mono ?_
      rintro e w' ⟨rfl, rfl⟩
      go_wp2
      go_ret
      exact ⟨rfl, Below.refl _ _⟩
    obtain ⟨p, rfl⟩ := Int.eq_ofNat_of_zero_le (show 0 ≤ at_ by omega)
    have hp : p ≤ len := by omega
    by_cases hacc : Acc (dfa (zs.drop p) 0).2
    · exact munch_acc a len cap zs p w hs hl hn hb hm hp hacc
    · have hB : accB (dfa (zs.drop p) 0).2 = false := by simpa [accB] using hacc
      have hdfa := dfa_any a len cap zs p w hs hl hb hm hp
      rw [hB] at hdfa
      obtain ⟨m, hmm⟩ : ∃ m, (dfa (zs.drop p) 0).1 = m := ⟨_, rfl⟩
      rw [hmm] at hdfa
      clear hB hb hacc hmm hs hl hn hml
      go_enter Try.func3, Try.ntmps3
      go_wp2_with fail
      refine (bytes_yes a len cap p _ hm).mono ?_
      rintro e w' ⟨rfl, hww⟩
      obtain rfl : w = w' := hww.symm
      go_wp2_with fail
      refine hdfa.mono ?_
      rintro e w' ⟨rfl, hww⟩
      obtain rfl : w = w' := hww.symm
      clear hdfa
      go_wp2
      go_ret
      exact ⟨rfl, Below.refl _ _⟩
  · unfold maxLen at hml
    clear hs hl hn hb
    go_enter Try.func3, Try.ntmps3
    go_wp2
    go_ret
    exact ⟨rfl, Below.refl _ _⟩
end Go.Proofs.Qxb6003361a.Num
