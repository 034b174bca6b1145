/-
  The plain law of the number: the automaton of RFC 8259's number, and what the lexer's number reads. No Go in sight.
-/
namespace Go.Proofs.Qxb6003361a.Num

abbrev Dig (c : Int) : Prop := 48 ≤ c ∧ c ≤ 57

/-- zzNumStep. -/
def step (s c : Int) : Int :=
  if s = 0 then (if c = 45 then 1 else if c = 48 then 2 else if Dig c then 3 else -1)
  else if s = 1 then (if c = 48 then 2 else if Dig c then 3 else -1)
  else if s = 2 then (if c = 46 then 4 else if c = 101 ∨ c = 69 then 6 else -1)
  else if s = 3 then (if Dig c then 3 else if c = 46 then 4 else if c = 101 ∨ c = 69 then 6 else -1)
  else if s = 4 then (if Dig c then 5 else -1)
  else if s = 5 then (if Dig c then 5 else if c = 101 ∨ c = 69 then 6 else -1)
  else if s = 6 then (if c = 43 ∨ c = 45 then 7 else if Dig c then 8 else -1)
  else if s = 7 then (if Dig c then 8 else -1)
  else if s = 8 then (if Dig c then 8 else -1)
  else -1

/-- The run: how many bytes, and the state. -/
def dfa : List Int → Int → Nat × Int
  | [], s => (0, s)
  | c :: t, s => if step s c < 0 then (0, s) else ((dfa t (step s c)).1 + 1, (dfa t (step s c)).2)

abbrev Acc (s : Int) : Prop := s = 2 ∨ s = 3 ∨ s = 5 ∨ s = 8

/-- How many digits stand ahead. -/
def dlen : List Int → Nat
  | [] => 0
  | c :: t => if Dig c then dlen t + 1 else 0

/-- One or more digits. -/
def dig (l : List Int) : Option Nat := if dlen l = 0 then none else some (dlen l)

/-- Behind the e: a sign or not, then digits. -/
def expo : List Int → Option Nat
  | [] => none
  | c :: t => if c = 43 ∨ c = 45 then (dig t).map (· + 1) else dig (c :: t)

/-- An exponent or none. -/
def c4 : List Int → Option Nat
  | [] => some 0
  | c :: t => if c = 101 ∨ c = 69 then (expo t).map (· + 1) else some 0

/-- A fraction or none, then an exponent or none. -/
def c3 : List Int → Option Nat
  | [] => some 0
  | c :: t => if c = 46 then (dig t).bind fun d => (c4 (t.drop d)).map (· + d + 1) else c4 (c :: t)

/-- The integer part, and what follows. -/
def c2 : List Int → Option Nat
  | [] => none
  | c :: t => if c = 48 then (c3 t).map (· + 1) else (dig (c :: t)).bind fun d => (c3 ((c :: t).drop d)).map (· + d)

/-- A number. -/
def num : List Int → Option Nat
  | [] => none
  | c :: t => if c = 45 then (c2 t).map (· + 1) else c2 (c :: t)

theorem dlen_cons {c : Int} {t : List Int} (h : Dig c) : dlen (c :: t) = dlen t + 1 := by simp only [dlen]; rw [if_pos h]

theorem dfa8 (l : List Int) : dfa l 8 = (dlen l, 8) := by
  induction l with
  | nil => rfl
  | cons c t ih =>
    by_cases h : Dig c
    · have : step 8 c = 8 := by simp [step, h]
      simp [dfa, this, ih, dlen, h]
    · have : step 8 c = -1 := by simp [step, h]
      simp [dfa, this, dlen, h]

theorem dfa7 (l : List Int) (h : Acc (dfa l 7).2) : dig l = some (dfa l 7).1 := by
  cases l with
  | nil => exact absurd h (by simp [dfa, Acc])
  | cons c t =>
    by_cases hd : Dig c
    · have : step 7 c = 8 := by simp [step, hd]
      simp [dfa, this, dfa8, dig, dlen, hd]
    · have : step 7 c = -1 := by simp [step, hd]
      exact absurd h (by simp [dfa, this, Acc])

theorem dfa6 (l : List Int) (h : Acc (dfa l 6).2) : expo l = some (dfa l 6).1 := by
  cases l with
  | nil => exact absurd h (by simp [dfa, Acc])
  | cons c t =>
    by_cases hs : c = 43 ∨ c = 45
    · have : step 6 c = 7 := by simp [step, hs]
      simp only [dfa, this] at h ⊢
      simp only [expo, if_pos hs]
      rw [if_neg (by decide)] at h ⊢
      rw [dfa7 t h]
      rfl
    · by_cases hd : Dig c
      · have : step 6 c = 8 := by simp [step, hs, hd]
        simp [dfa, this, dfa8, expo, hs, dig, dlen, hd]
      · have : step 6 c = -1 := by simp [step, hs, hd]
        exact absurd h (by simp [dfa, this, Acc])

/-- In a state whose only way on, but for digits, is an exponent. -/
theorem dfa5 (l : List Int) (h : Acc (dfa l 5).2) : ∃ m, c4 (l.drop (dlen l)) = some m ∧ (dfa l 5).1 = m + dlen l := by
  induction l with
  | nil => exact ⟨0, rfl, rfl⟩
  | cons c t ih =>
    by_cases hd : Dig c
    · have : step 5 c = 5 := by simp [step, hd]
      simp only [dfa, this] at h ⊢
      rw [if_neg (by decide)] at h ⊢
      obtain ⟨m, h1, h2⟩ := ih h
      refine ⟨m, ?_, ?_⟩
      · rw [dlen_cons hd, List.drop_succ_cons]; exact h1
      · simp only [dlen, if_pos hd]; omega
    · by_cases he : c = 101 ∨ c = 69
      · have : step 5 c = 6 := by simp [step, hd, he]
        simp only [dfa, this] at h ⊢
        rw [if_neg (by decide)] at h ⊢
        have := dfa6 t h
        refine ⟨(dfa t 6).1 + 1, ?_, ?_⟩
        · simp [dlen, hd, c4, he, this]
        · simp [dlen, hd]
      · have : step 5 c = -1 := by simp [step, hd, he]
        refine ⟨0, by simp [dlen, hd, c4, he], by simp [dfa, this, dlen, hd]⟩

theorem dfa4 (l : List Int) (h : Acc (dfa l 4).2) : ∃ m, dig l = some (dlen l) ∧ c4 (l.drop (dlen l)) = some m ∧ (dfa l 4).1 = m + dlen l := by
  cases l with
  | nil => exact absurd h (by simp [dfa, Acc])
  | cons c t =>
    by_cases hd : Dig c
    · have : step 4 c = 5 := by simp [step, hd]
      simp only [dfa, this] at h ⊢
      rw [if_neg (by decide)] at h ⊢
      obtain ⟨m, h1, h2⟩ := dfa5 t h
      refine ⟨m, by simp [dig, dlen, hd], by rw [dlen_cons hd, List.drop_succ_cons]; exact h1, ?_⟩
      simp only [dlen, if_pos hd]; omega
    · have : step 4 c = -1 := by simp [step, hd]
      exact absurd h (by simp [dfa, this, Acc])

theorem dfa2 (l : List Int) (h : Acc (dfa l 2).2) : c3 l = some (dfa l 2).1 := by
  cases l with
  | nil => rfl
  | cons c t =>
    by_cases hp : c = 46
    · subst hp
      have : step 2 46 = 4 := by decide
      simp only [dfa, this] at h ⊢
      rw [if_neg (by decide)] at h ⊢
      obtain ⟨m, h1, h2, h3⟩ := dfa4 t h
      simp only [c3]
      rw [if_pos trivial, h1]
      simp [h2, h3]
    · by_cases he : c = 101 ∨ c = 69
      · have : step 2 c = 6 := by simp [step, hp, he]
        simp only [dfa, this] at h ⊢
        rw [if_neg (by decide)] at h ⊢
        simp [c3, hp, c4, he, dfa6 t h]
      · have : step 2 c = -1 := by simp [step, hp, he]
        simp [dfa, this, c3, hp, c4, he]

theorem dfa3 (l : List Int) (h : Acc (dfa l 3).2) : ∃ m, c3 (l.drop (dlen l)) = some m ∧ (dfa l 3).1 = m + dlen l := by
  induction l with
  | nil => exact ⟨0, rfl, rfl⟩
  | cons c t ih =>
    by_cases hd : Dig c
    · have : step 3 c = 3 := by simp [step, hd]
      simp only [dfa, this] at h ⊢
      rw [if_neg (by decide)] at h ⊢
      obtain ⟨m, h1, h2⟩ := ih h
      refine ⟨m, ?_, ?_⟩
      · rw [dlen_cons hd, List.drop_succ_cons]; exact h1
      · simp only [dlen, if_pos hd]; omega
    · have e : dfa (c :: t) 3 = if (dfa (c :: t) 2).1 = 0 then (0, 3) else dfa (c :: t) 2 := by
        have : step 3 c = step 2 c := by simp [step, hd]
        simp only [dfa, this]
        split <;> simp
      have h0 : dlen (c :: t) = 0 := by simp [dlen, hd]
      rw [e] at h ⊢
      by_cases hz : (dfa (c :: t) 2).1 = 0
      · have hs : step 2 c < 0 := by
          simp only [dfa] at hz
          by_cases hs : step 2 c < 0
          · exact hs
          · rw [if_neg hs] at hz; simp at hz
        have h2 : Acc (dfa (c :: t) 2).2 := by simp [dfa, hs, Acc]
        refine ⟨0, ?_, by simp [hz, h0]⟩
        rw [h0, List.drop_zero, dfa2 _ h2, hz]
      · rw [if_neg hz] at h ⊢
        refine ⟨(dfa (c :: t) 2).1, ?_, by rw [h0]; rfl⟩
        rw [h0, List.drop_zero, dfa2 _ h]

theorem dfa1 (l : List Int) (h : Acc (dfa l 1).2) : c2 l = some (dfa l 1).1 := by
  cases l with
  | nil => exact absurd h (by simp [dfa, Acc])
  | cons c t =>
    by_cases hz : c = 48
    · subst hz
      have : step 1 48 = 2 := by decide
      simp only [dfa, this] at h ⊢
      rw [if_neg (by decide)] at h ⊢
      simp [c2, dfa2 t h]
    · by_cases hd : Dig c
      · have : step 1 c = 3 := by simp [step, hz, hd]
        simp only [dfa, this] at h ⊢
        rw [if_neg (by decide)] at h ⊢
        obtain ⟨m, h1, h2⟩ := dfa3 t h
        have hdd : dig (c :: t) = some (dlen t + 1) := by simp [dig, dlen, hd]
        simp only [c2, if_neg hz, hdd, Option.bind_some, List.drop_succ_cons, h1, h2, Option.map_some]
        congr 1
      · have : step 1 c = -1 := by simp [step, hz, hd]
        exact absurd h (by simp [dfa, this, Acc])

/-- Where the automaton stops in an accepting state, a number is read to that very end. -/
theorem dfa0 (l : List Int) (h : Acc (dfa l 0).2) : num l = some (dfa l 0).1 := by
  cases l with
  | nil => exact absurd h (by simp [dfa, Acc])
  | cons c t =>
    by_cases hm : c = 45
    · subst hm
      have : step 0 45 = 1 := by decide
      simp only [dfa, this] at h ⊢
      rw [if_neg (by decide)] at h ⊢
      simp [num, dfa1 t h]
    · have e : dfa (c :: t) 0 = if step 1 c < 0 then (0, 0) else dfa (c :: t) 1 := by
        have : step 0 c = step 1 c := by simp [step, hm]
        simp only [dfa, this]
        split <;> rfl
      rw [e] at h ⊢
      by_cases hs : step 1 c < 0
      · rw [if_pos hs] at h; exact absurd h (by simp [Acc])
      · rw [if_neg hs] at h ⊢
        simp [num, hm, dfa1 _ h]

theorem dfa_le (l : List Int) (s : Int) : (dfa l s).1 ≤ l.length := by
  induction l generalizing s with
  | nil => simp [dfa]
  | cons c t ih =>
    simp only [dfa]
    split
    · simp
    · have := ih (step s c)
      simp
      omega

/-- On the text cut at the end the run is the same. -/
theorem dfa_cut (l : List Int) (s : Int) : dfa (l.take (dfa l s).1) s = dfa l s := by
  induction l generalizing s with
  | nil => rfl
  | cons c t ih =>
    by_cases h : step s c < 0
    · simp [dfa, h]
    · have e : (dfa (c :: t) s).1 = (dfa t (step s c)).1 + 1 := by simp [dfa, h]
      rw [e, List.take_succ_cons]
      simp [dfa, h, ih]
end Go.Proofs.Qxb6003361a.Num
