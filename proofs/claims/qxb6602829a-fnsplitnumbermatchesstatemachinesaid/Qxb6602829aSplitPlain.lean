/-
  The plain law of the number's parts: what splitNumber gives, stage by stage, and that the automaton gives the same. No Go in sight.
-/
namespace Go.Proofs.Qxb6602829a.Split

abbrev Dig (c : Int) : Prop := 48 ≤ c ∧ c ≤ 57

/-- How many digits stand ahead. -/
def dlen : List Int → Nat
  | [] => 0
  | c :: t => if Dig c then dlen t + 1 else 0

theorem dlen_cons {c : Int} {t : List Int} (h : Dig c) : dlen (c :: t) = dlen t + 1 := by simp only [dlen]; rw [if_pos h]
theorem dlen_no {c : Int} {t : List Int} (h : ¬ Dig c) : dlen (c :: t) = 0 := by simp only [dlen]; rw [if_neg h]
theorem dlen_le (l : List Int) : dlen l ≤ l.length := by
  induction l with
  | nil => simp [dlen]
  | cons c t ih =>
    by_cases h : Dig c
    · rw [dlen_cons h]; simp; omega
    · rw [dlen_no h]; simp

/-- The parts of a number. -/
structure Parts where
  neg : Bool
  int : ByteArray
  frac : ByteArray
  negx : Bool
  expo : ByteArray

def nothing : ByteArray := ⟨#[]⟩

/-- The exponent's digits, to the text's end. -/
def stD (s : ByteArray) (neg : Bool) (it fr : ByteArray) (ne : Bool) (l : List Int) (k : Nat) : Option Parts :=
  if dlen l = 0 then none else if dlen l = l.length then some ⟨neg, it, fr, ne, s.extract k s.size⟩ else none
/-- Behind the e. -/
def stX (s : ByteArray) (neg : Bool) (it fr : ByteArray) (l : List Int) (k : Nat) : Option Parts :=
  match l with
  | [] => none
  | c :: t => if c = 43 then stD s neg it fr false t (k + 1) else if c = 45 then stD s neg it fr true t (k + 1) else stD s neg it fr false (c :: t) k
/-- An exponent or the end. -/
def stE (s : ByteArray) (neg : Bool) (it fr : ByteArray) (l : List Int) (k : Nat) : Option Parts :=
  match l with
  | [] => some ⟨neg, it, fr, false, nothing⟩
  | c :: t => if c = 101 ∨ c = 69 then stX s neg it fr t (k + 1) else none
/-- The fraction's digits. -/
def stG (s : ByteArray) (neg : Bool) (it : ByteArray) (l : List Int) (k : Nat) : Option Parts :=
  if dlen l = 0 then none else stE s neg it (s.extract k (k + dlen l)) (l.drop (dlen l)) (k + dlen l)
/-- A fraction or none. -/
def stF (s : ByteArray) (neg : Bool) (it : ByteArray) (l : List Int) (k : Nat) : Option Parts :=
  match l with
  | [] => stE s neg it nothing [] k
  | c :: t => if c = 46 then stG s neg it t (k + 1) else stE s neg it nothing (c :: t) k
/-- The integer part. -/
def stI (s : ByteArray) (neg : Bool) (l : List Int) (k : Nat) : Option Parts :=
  match l with
  | [] => none
  | c :: t => if c = 48 then stF s neg (s.extract k (k + 1)) t (k + 1)
    else if Dig c then stF s neg (s.extract k (k + dlen (c :: t))) ((c :: t).drop (dlen (c :: t))) (k + dlen (c :: t)) else none
/-- The sign. -/
def stN (s : ByteArray) (l : List Int) : Option Parts :=
  match l with
  | [] => none
  | c :: t => if c = 45 then stI s true t 1 else stI s false (c :: t) 0

def codes (s : ByteArray) : List Int := s.data.toList.map fun c => (c.toNat : Int)
def spec (s : ByteArray) : Option Parts := stN s (codes s)

/-! ### The automaton's states: what is still to come of them -/
/-- The automaton's variables. -/
structure Vars where
  neg : Bool
  negx : Bool
  hasF : Bool
  hasX : Bool
  i0 : Nat
  i1 : Nat
  f0 : Nat
  f1 : Nat
  x0 : Nat

def Vars.frac (v : Vars) (s : ByteArray) : ByteArray := if v.hasF then s.extract v.f0 v.f1 else nothing

/-- In the state q, at the place k, before the bytes l: the parts that the text has. -/
def fut (s : ByteArray) (q : Nat) (v : Vars) (l : List Int) (k : Nat) : Option Parts :=
  match q with
  | 0 => (match l with
    | [] => none
    | c :: t => if c = 45 then stI s true t (k + 1) else stI s false (c :: t) k)
  | 1 => stI s v.neg l k
  | 2 => stF s v.neg (s.extract v.i0 k) l k
  | 3 => stF s v.neg (s.extract v.i0 (k + dlen l)) (l.drop (dlen l)) (k + dlen l)
  | 4 => stG s v.neg (s.extract v.i0 v.i1) l k
  | 5 => stE s v.neg (s.extract v.i0 v.i1) (s.extract v.f0 (k + dlen l)) (l.drop (dlen l)) (k + dlen l)
  | 6 => stX s v.neg (s.extract v.i0 v.i1) (v.frac s) l k
  | 7 => stD s v.neg (s.extract v.i0 v.i1) (v.frac s) v.negx l k
  | 8 => if dlen l = l.length then some ⟨v.neg, s.extract v.i0 v.i1, v.frac s, v.negx, s.extract v.x0 s.size⟩ else none
  | _ => none

/-- What holds of the variables in each state, at the place k. -/
def Inv (q : Nat) (v : Vars) (k : Nat) : Prop :=
  match q with
  | 0 => k = 0 ∧ v.neg = false ∧ v.negx = false ∧ v.hasF = false ∧ v.hasX = false
  | 1 => v.negx = false ∧ v.hasF = false ∧ v.hasX = false
  | 2 => v.i0 ≤ k ∧ v.negx = false ∧ v.hasF = false ∧ v.hasX = false
  | 3 => v.i0 ≤ k ∧ v.negx = false ∧ v.hasF = false ∧ v.hasX = false
  | 4 => v.i0 ≤ v.i1 ∧ v.i1 ≤ k ∧ v.negx = false ∧ v.hasF = true ∧ v.hasX = false ∧ v.f0 = k
  | 5 => v.i0 ≤ v.i1 ∧ v.i1 ≤ k ∧ v.negx = false ∧ v.hasF = true ∧ v.hasX = false ∧ v.f0 ≤ k
  | 6 => v.i0 ≤ v.i1 ∧ v.i1 ≤ k ∧ v.negx = false ∧ (v.hasF = true → v.f0 ≤ v.f1 ∧ v.f1 ≤ k) ∧ v.hasX = false
  | 7 => v.i0 ≤ v.i1 ∧ v.i1 ≤ k ∧ (v.hasF = true → v.f0 ≤ v.f1 ∧ v.f1 ≤ k) ∧ v.hasX = false
  | 8 => v.i0 ≤ v.i1 ∧ v.i1 ≤ k ∧ (v.hasF = true → v.f0 ≤ v.f1 ∧ v.f1 ≤ k) ∧ v.hasX = true ∧ v.x0 ≤ k
  | _ => False

variable {s : ByteArray} {v : Vars} {t : List Int} {k : Nat} {c : Int}

/-! #### state 0 -/
theorem s0_minus (hc : c = 45) (h : Inv 0 v k) : fut s 0 v (c :: t) k = fut s 1 { v with neg := true } t (k + 1) ∧ Inv 1 { v with neg := true } (k + 1) := by
  obtain ⟨_, _, h1, h2, h3⟩ := h
  exact ⟨by simp [fut, hc], h1, h2, h3⟩
theorem s0_zero (hc : c = 48) (h : Inv 0 v k) : fut s 0 v (c :: t) k = fut s 2 { v with i0 := k } t (k + 1) ∧ Inv 2 { v with i0 := k } (k + 1) := by
  obtain ⟨_, h0, h1, h2, h3⟩ := h
  exact ⟨by simp [fut, hc, stI, h0], by simp, h1, h2, h3⟩
theorem s0_dig (hd : Dig c) (hc : ¬ c = 48) (h : Inv 0 v k) : fut s 0 v (c :: t) k = fut s 3 { v with i0 := k } t (k + 1) ∧ Inv 3 { v with i0 := k } (k + 1) := by
  obtain ⟨_, h0, h1, h2, h3⟩ := h
  refine ⟨?_, by simp, h1, h2, h3⟩
  have hm : ¬ c = 45 := by unfold Dig at hd; omega
  simp only [fut, if_neg hm, stI, if_neg hc, if_pos hd, dlen_cons hd, List.drop_succ_cons, h0]
  rw [show k + (dlen t + 1) = k + 1 + dlen t by omega]
theorem s0_no (hd : ¬ Dig c) (hc : ¬ c = 45) : fut s 0 v (c :: t) k = none := by
  have hz : ¬ c = 48 := by unfold Dig at hd; omega
  simp only [fut, if_neg hc, stI, if_neg hz, if_neg hd]
/-! #### state 1 -/
theorem s1_zero (hc : c = 48) (h : Inv 1 v k) : fut s 1 v (c :: t) k = fut s 2 { v with i0 := k } t (k + 1) ∧ Inv 2 { v with i0 := k } (k + 1) := by
  obtain ⟨h1, h2, h3⟩ := h
  exact ⟨by simp [fut, hc, stI], by simp, h1, h2, h3⟩
theorem s1_dig (hd : Dig c) (hc : ¬ c = 48) (h : Inv 1 v k) : fut s 1 v (c :: t) k = fut s 3 { v with i0 := k } t (k + 1) ∧ Inv 3 { v with i0 := k } (k + 1) := by
  obtain ⟨h1, h2, h3⟩ := h
  refine ⟨?_, by simp, h1, h2, h3⟩
  simp only [fut, stI, if_neg hc, if_pos hd, dlen_cons hd, List.drop_succ_cons]
  rw [show k + (dlen t + 1) = k + 1 + dlen t by omega]
theorem s1_no (hd : ¬ Dig c) : fut s 1 v (c :: t) k = none := by
  have hz : ¬ c = 48 := by unfold Dig at hd; omega
  simp only [fut, stI, if_neg hz, if_neg hd]
/-! #### states 2 and 3 -/
theorem s2_dot (hc : c = 46) (h : Inv 2 v k) : fut s 2 v (c :: t) k = fut s 4 { v with i1 := k, hasF := true, f0 := k + 1 } t (k + 1) ∧ Inv 4 { v with i1 := k, hasF := true, f0 := k + 1 } (k + 1) := by
  obtain ⟨h0, h1, h2, h3⟩ := h
  exact ⟨by simp [fut, hc, stF], by simpa using h0, by simp, h1, rfl, h3, rfl⟩
theorem s2_e (hc : c = 101 ∨ c = 69) (h : Inv 2 v k) : fut s 2 v (c :: t) k = fut s 6 { v with i1 := k } t (k + 1) ∧ Inv 6 { v with i1 := k } (k + 1) := by
  obtain ⟨h0, h1, h2, h3⟩ := h
  refine ⟨?_, by simpa using h0, by simp, h1, by simp [h2], h3⟩
  have hp : ¬ c = 46 := by omega
  simp only [fut, stF, if_neg hp, stE, if_pos hc, Vars.frac, h2]
  rfl
theorem s2_no (hp : ¬ c = 46) (he : ¬ (c = 101 ∨ c = 69)) : fut s 2 v (c :: t) k = none := by
  simp only [fut, stF, if_neg hp, stE, if_neg he]
theorem s3_dig (hd : Dig c) (h : Inv 3 v k) : fut s 3 v (c :: t) k = fut s 3 v t (k + 1) ∧ Inv 3 v (k + 1) := by
  obtain ⟨h0, h1, h2, h3⟩ := h
  refine ⟨?_, by omega, h1, h2, h3⟩
  simp only [fut, dlen_cons hd, List.drop_succ_cons]
  rw [show k + (dlen t + 1) = k + 1 + dlen t by omega]
theorem s3_as2 (hd : ¬ Dig c) : fut s 3 v (c :: t) k = fut s 2 v (c :: t) k := by
  simp only [fut, dlen_no hd, List.drop_zero, Nat.add_zero]
theorem s3_dot (hc : c = 46) (h : Inv 3 v k) : fut s 3 v (c :: t) k = fut s 4 { v with i1 := k, hasF := true, f0 := k + 1 } t (k + 1) ∧ Inv 4 { v with i1 := k, hasF := true, f0 := k + 1 } (k + 1) := by
  rw [s3_as2 (by unfold Dig; omega)]
  exact s2_dot hc h
theorem s3_e (hc : c = 101 ∨ c = 69) (h : Inv 3 v k) : fut s 3 v (c :: t) k = fut s 6 { v with i1 := k } t (k + 1) ∧ Inv 6 { v with i1 := k } (k + 1) := by
  rw [s3_as2 (by unfold Dig; omega)]
  exact s2_e hc h
theorem s3_no (hd : ¬ Dig c) (hp : ¬ c = 46) (he : ¬ (c = 101 ∨ c = 69)) : fut s 3 v (c :: t) k = none := by
  rw [s3_as2 hd]
  exact s2_no hp he
/-! #### states 4 and 5 -/
theorem s4_dig (hd : Dig c) (h : Inv 4 v k) : fut s 4 v (c :: t) k = fut s 5 v t (k + 1) ∧ Inv 5 v (k + 1) := by
  obtain ⟨h0, h1, h2, h3, h4, h5⟩ := h
  refine ⟨?_, h0, by omega, h2, h3, h4, by omega⟩
  simp only [fut, stG, dlen_cons hd, List.drop_succ_cons, h5]
  rw [if_neg (by omega), show k + (dlen t + 1) = k + 1 + dlen t by omega]
theorem s4_no (hd : ¬ Dig c) : fut s 4 v (c :: t) k = none := by
  simp only [fut, stG, dlen_no hd, if_true]
theorem s5_dig (hd : Dig c) (h : Inv 5 v k) : fut s 5 v (c :: t) k = fut s 5 v t (k + 1) ∧ Inv 5 v (k + 1) := by
  obtain ⟨h0, h1, h2, h3, h4, h5⟩ := h
  refine ⟨?_, h0, by omega, h2, h3, h4, by omega⟩
  simp only [fut, dlen_cons hd, List.drop_succ_cons]
  rw [show k + (dlen t + 1) = k + 1 + dlen t by omega]
theorem s5_e (hc : c = 101 ∨ c = 69) (h : Inv 5 v k) : fut s 5 v (c :: t) k = fut s 6 { v with f1 := k } t (k + 1) ∧ Inv 6 { v with f1 := k } (k + 1) := by
  obtain ⟨h0, h1, h2, h3, h4, h5⟩ := h
  have hd : ¬ Dig c := by unfold Dig; omega
  refine ⟨?_, h0, Nat.le_succ_of_le h1, h2, fun _ => ⟨h5, by simp⟩, h4⟩
  simp only [fut, dlen_no hd, List.drop_zero, Nat.add_zero, stE, if_pos hc, Vars.frac, h3, if_true]
theorem s5_no (hd : ¬ Dig c) (he : ¬ (c = 101 ∨ c = 69)) : fut s 5 v (c :: t) k = none := by
  simp only [fut, dlen_no hd, List.drop_zero, Nat.add_zero, stE, if_neg he]
/-! #### states 6, 7 and 8 -/
theorem s6_plus (hc : c = 43) (h : Inv 6 v k) : fut s 6 v (c :: t) k = fut s 7 v t (k + 1) ∧ Inv 7 v (k + 1) := by
  obtain ⟨h0, h1, h2, h3, h4⟩ := h
  exact ⟨by simp [fut, stX, hc, h2], h0, by omega, fun hf => ⟨(h3 hf).1, by have := (h3 hf).2; omega⟩, h4⟩
theorem s6_minus (hc : c = 45) (h : Inv 6 v k) : fut s 6 v (c :: t) k = fut s 7 { v with negx := true } t (k + 1) ∧ Inv 7 { v with negx := true } (k + 1) := by
  obtain ⟨h0, h1, h2, h3, h4⟩ := h
  exact ⟨by simp [fut, stX, hc, Vars.frac], h0, Nat.le_succ_of_le h1, fun hf => ⟨(h3 hf).1, by have := (h3 hf).2; simp only; omega⟩, h4⟩
theorem d8 (hd : Dig c) (ne : Bool) (it fr : ByteArray) (neg : Bool) : stD s neg it fr ne (c :: t) k = if dlen t = t.length then some ⟨neg, it, fr, ne, s.extract k s.size⟩ else none := by
  simp only [stD, dlen_cons hd, List.length_cons]
  rw [if_neg (by omega)]
  by_cases h : dlen t = t.length
  · rw [if_pos h, if_pos (by omega)]
  · rw [if_neg h, if_neg (by omega)]
theorem s6_dig (hd : Dig c) (h : Inv 6 v k) : fut s 6 v (c :: t) k = fut s 8 { v with hasX := true, x0 := k } t (k + 1) ∧ Inv 8 { v with hasX := true, x0 := k } (k + 1) := by
  obtain ⟨h0, h1, h2, h3, h4⟩ := h
  refine ⟨?_, h0, Nat.le_succ_of_le h1, fun hf => ⟨(h3 hf).1, by have := (h3 hf).2; simp only; omega⟩, rfl, by simp⟩
  have hp : ¬ c = 43 := by unfold Dig at hd; omega
  have hm : ¬ c = 45 := by unfold Dig at hd; omega
  simp only [fut, stX, if_neg hp, if_neg hm, d8 hd, Vars.frac, h2]
theorem s6_no (hd : ¬ Dig c) (hp : ¬ c = 43) (hm : ¬ c = 45) : fut s 6 v (c :: t) k = none := by
  simp only [fut, stX, if_neg hp, if_neg hm, stD, dlen_no hd, if_true]
theorem s7_dig (hd : Dig c) (h : Inv 7 v k) : fut s 7 v (c :: t) k = fut s 8 { v with hasX := true, x0 := k } t (k + 1) ∧ Inv 8 { v with hasX := true, x0 := k } (k + 1) := by
  obtain ⟨h0, h1, h3, h4⟩ := h
  refine ⟨?_, h0, Nat.le_succ_of_le h1, fun hf => ⟨(h3 hf).1, by have := (h3 hf).2; simp only; omega⟩, rfl, by simp⟩
  simp only [fut, d8 hd, Vars.frac]
theorem s7_no (hd : ¬ Dig c) : fut s 7 v (c :: t) k = none := by
  simp only [fut, stD, dlen_no hd, if_true]
theorem s8_dig (hd : Dig c) (h : Inv 8 v k) : fut s 8 v (c :: t) k = fut s 8 v t (k + 1) ∧ Inv 8 v (k + 1) := by
  obtain ⟨h0, h1, h3, h4, h5⟩ := h
  refine ⟨?_, h0, by omega, fun hf => ⟨(h3 hf).1, by have := (h3 hf).2; omega⟩, h4, by omega⟩
  simp only [fut, dlen_cons hd, List.length_cons]
  by_cases h : dlen t = t.length
  · rw [if_pos h, if_pos (by omega)]
  · rw [if_neg h, if_neg (by omega)]
theorem s8_no (hd : ¬ Dig c) : fut s 8 v (c :: t) k = none := by
  simp only [fut, dlen_no hd, List.length_cons]
  rw [if_neg (by omega)]
/-! #### the end -/
theorem e0 : fut s 0 v [] k = none := rfl
theorem e1 : fut s 1 v [] k = none := rfl
theorem e2 : fut s 2 v [] k = some ⟨v.neg, s.extract v.i0 k, nothing, false, nothing⟩ := rfl
theorem e3 : fut s 3 v [] k = some ⟨v.neg, s.extract v.i0 k, nothing, false, nothing⟩ := rfl
theorem e4 : fut s 4 v [] k = none := rfl
theorem e5 : fut s 5 v [] k = some ⟨v.neg, s.extract v.i0 v.i1, s.extract v.f0 k, false, nothing⟩ := rfl
theorem e6 : fut s 6 v [] k = none := rfl
theorem e7 : fut s 7 v [] k = none := rfl
theorem e8 : fut s 8 v [] k = some ⟨v.neg, s.extract v.i0 v.i1, v.frac s, v.negx, s.extract v.x0 s.size⟩ := rfl

theorem start (v : Vars) : fut s 0 v (codes s) 0 = spec s := rfl
end Go.Proofs.Qxb6602829a.Split
