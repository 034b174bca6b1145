/-
  The plain law of the header field: no Go in sight. 'goodKey': what headerFault finds nothing wrong with. 'roundKey': what the reader of the field line gives.
-/
namespace Go.Proofs.Qxb6003361a.Head

def blank (c : UInt8) : Bool := ((c.toNat : Int) == 32) || ((c.toNat : Int) == 9)
def ctl (c : UInt8) : Bool := (decide ((c.toNat : Int) < 32) && ((c.toNat : Int) != 9)) || ((c.toNat : Int) == 127)

/-- The first or the last byte is a blank. -/
def ends (l : List UInt8) : Bool := (l.head?.map blank).getD false || (l.getLast?.map blank).getD false
def goodKey (l : List UInt8) : Bool := !ends l && l.all (fun c => !ctl c)

def line (l : List UInt8) : List UInt8 := [75, 58, 32] ++ l ++ [13, 10]
def rtrim (l : List UInt8) : List UInt8 := (l.reverse.dropWhile blank).reverse
def cutCr (l : List UInt8) : List UInt8 := if l.getLast? = some 13 then l.dropLast else l
def value (l : List UInt8) : List UInt8 := rtrim (((cutCr ((line l).takeWhile fun c => c.toNat != 10)).drop 2).dropWhile blank)
def roundKey (l : List UInt8) : Bool := (value l).all (fun c => !ctl c) && value l == l

theorem length_rtrim (l : List UInt8) : (rtrim l).length ≤ l.length := by
  unfold rtrim
  have := (List.dropWhile_suffix (l := l.reverse) blank).length_le
  simpa using this

theorem length_dropWhile (l : List UInt8) : (l.dropWhile blank).length ≤ l.length := (List.dropWhile_suffix (l := l) blank).length_le

theorem rtrim_eq_self (l : List UInt8) : rtrim l = l ↔ (l.getLast?.map blank).getD false = false := by
  unfold rtrim
  constructor
  · intro h
    have h2 : l.reverse.dropWhile blank = l.reverse := by rw [← List.reverse_inj, List.reverse_reverse]; exact h
    rw [← List.head?_reverse]
    cases hr : l.reverse with
    | nil => rfl
    | cons c t =>
      rw [hr] at h2
      simp only [List.head?_cons, Option.map_some, Option.getD_some]
      cases hb : blank c with
      | false => rfl
      | true =>
        rw [List.dropWhile_cons_of_pos hb] at h2
        have h3 := length_dropWhile t
        rw [h2] at h3
        simp at h3
        omega
  · intro h
    rw [← List.head?_reverse] at h
    cases hr : l.reverse with
    | nil => simp at hr; simp [hr]
    | cons c t =>
      rw [hr] at h
      simp only [List.head?_cons, Option.map_some, Option.getD_some] at h
      rw [List.dropWhile_cons_of_neg (by simp [h]), ← hr, List.reverse_reverse]

theorem value_clean (l : List UInt8) (h : ∀ c ∈ l, c.toNat ≠ 10) : value l = rtrim (l.dropWhile blank) := by
  have h1 : (line l).takeWhile (fun c => c.toNat != 10) = [75, 58, 32] ++ l ++ [13] := by
    unfold line
    rw [show [75, 58, 32] ++ l ++ [13, 10] = ([75, 58, 32] ++ l ++ [13]) ++ [10] by simp]
    rw [List.takeWhile_append_of_pos]
    · simp
    · intro c hc
      simp only [List.mem_append, List.mem_cons, List.not_mem_nil, or_false] at hc
      rcases hc with (((rfl | rfl | rfl)) | hc) | rfl
      · rfl
      · rfl
      · rfl
      · simpa using h c hc
      · rfl
  have h2 : cutCr ([75, 58, 32] ++ l ++ [13]) = [75, 58, 32] ++ l := by
    unfold cutCr
    rw [if_pos (List.getLast?_concat ..), List.dropLast_concat]
  unfold value
  rw [h1, h2]
  rw [show ([75, 58, 32] ++ l : List UInt8).drop 2 = (32 : UInt8) :: l from rfl, List.dropWhile_cons_of_pos (by rfl)]

theorem value_cut (l : List UInt8) (h : ∃ c ∈ l, c.toNat = 10) : (value l).length < l.length := by
  have h1 : (line l).takeWhile (fun c => c.toNat != 10) = [75, 58, 32] ++ l.takeWhile (fun c => c.toNat != 10) := by
    unfold line
    rw [List.append_assoc, List.takeWhile_append_of_pos]
    · congr 1
      induction l with
      | nil => simp at h
      | cons d t ih =>
        by_cases hd : d.toNat = 10
        · simp [hd]
        · obtain ⟨c, hc, hc'⟩ := h
          have hct : c ∈ t := by
            simp only [List.mem_cons] at hc
            rcases hc with rfl | hc
            · exact absurd hc' hd
            · exact hc
          have := ih ⟨c, hct, hc'⟩
          simp only [List.cons_append, List.takeWhile_cons]
          rw [this]
    · intro c hc
      simp only [List.mem_cons, List.not_mem_nil, or_false] at hc
      rcases hc with rfl | rfl | rfl <;> rfl
  have hlt : (l.takeWhile (fun c => c.toNat != 10)).length < l.length := by
    clear h1
    induction l with
    | nil => simp at h
    | cons d t ih =>
      by_cases hd : d.toNat = 10
      · simp [hd]
      · obtain ⟨c, hc, hc'⟩ := h
        have hct : c ∈ t := by
          simp only [List.mem_cons] at hc
          rcases hc with rfl | hc
          · exact absurd hc' hd
          · exact hc
        have := ih ⟨c, hct, hc'⟩
        simp [hd]
        exact this
  generalize hp : l.takeWhile (fun c => c.toNat != 10) = p at h1 hlt
  have h2 : ∃ x : List UInt8, (cutCr ([75, 58, 32] ++ p)).drop 2 = (32 : UInt8) :: x ∧ x.length ≤ p.length := by
    unfold cutCr
    split
    · cases p with
      | nil => rename_i hh; simp at hh
      | cons d t =>
        refine ⟨(d :: t).dropLast, ?_, by simp⟩
        rw [List.dropLast_append_of_ne_nil (by simp)]
        rfl
    · exact ⟨p, rfl, Nat.le_refl _⟩
  obtain ⟨x, hx, hxl⟩ := h2
  unfold value
  rw [h1, hx, List.dropWhile_cons_of_pos (by rfl)]
  have a1 := length_rtrim (x.dropWhile blank)
  have a2 := length_dropWhile x
  omega

theorem round_good (l : List UInt8) : roundKey l = goodKey l := by
  by_cases h : ∃ c ∈ l, c.toNat = 10
  · have h1 := value_cut l h
    have h2 : (value l == l) = false := by
      rw [beq_eq_false_iff_ne]
      intro e
      rw [e] at h1
      omega
    obtain ⟨c, hc, hc'⟩ := h
    have h3 : l.all (fun c => !ctl c) = false := by
      rw [List.all_eq_false]
      exact ⟨c, hc, by simp [ctl, hc']⟩
    simp [roundKey, goodKey, h2, h3]
  · have hn : ∀ c ∈ l, c.toNat ≠ 10 := fun c hc e => h ⟨c, hc, e⟩
    have hv := value_clean l hn
    unfold roundKey goodKey
    rw [hv]
    by_cases he : ends l = true
    · have hne : (rtrim (l.dropWhile blank) == l) = false := by
        rw [beq_eq_false_iff_ne]
        intro e
        have a1 := length_rtrim (l.dropWhile blank)
        have a2 := length_dropWhile l
        rw [e] at a1
        have e2 : l.dropWhile blank = l := List.IsSuffix.eq_of_length_le (List.dropWhile_suffix blank) a1
        rw [e2] at e
        have e3 := (rtrim_eq_self l).1 e
        have e4 : (l.head?.map blank).getD false = false := by
          cases l with
          | nil => rfl
          | cons c t =>
            simp only [List.head?_cons, Option.map_some, Option.getD_some]
            cases hb : blank c with
            | false => rfl
            | true =>
              rw [List.dropWhile_cons_of_pos hb] at e2
              have h3 := length_dropWhile t
              rw [e2] at h3
              simp at h3
              omega
        simp [ends, e3, e4] at he
      simp [hne, he]
    · have he' : ends l = false := by simpa using he
      unfold ends at he'
      simp only [Bool.or_eq_false_iff] at he'
      have e1 : l.dropWhile blank = l := by
        cases l with
        | nil => rfl
        | cons c t =>
          have := he'.1
          simp only [List.head?_cons, Option.map_some, Option.getD_some] at this
          rw [List.dropWhile_cons_of_neg (by simp [this])]
      have e2 : rtrim l = l := (rtrim_eq_self l).2 he'.2
      rw [e1, e2]
      have : ends l = false := by simp [ends, he'.1, he'.2]
      simp [this]
end Go.Proofs.Qxb6003361a.Head
