/-
  The plain law of the built literal: a number that is built by RFC 8259's grammar, followed by nothing or by a byte that cannot continue it, is read to its end.
-/
import Derived.Test.Qxb6003361aNumLaw
import Derived.Test.Qxb6003361aLitLex
import Derived.Test.Qxb6003361aLitMem
namespace Go.Proofs.Qxb6003361a.Lit
open Go.Proofs.Qxb6003361a.Num

def negB (b : Bool) : List Int := if b then [45] else []
/-- The integer part. -/
def intB (zs : List Int) : List Int := if zs.length = 0 then [48] else (49 + zs.getD 0 0 % 9) :: (zs.drop 1).map dg
def fracB (b : Bool) (zs : List Int) : List Int := if b then 46 :: digs zs else []
def xpB (b : Bool) (k : Int) (zs : List Int) : List Int := if b then expB k ++ digs zs else []
/-- What follows the literal. -/
def tl (t : Int) : List Int := if t = 0 then [] else [t]

def AllDig (l : List Int) : Prop := ∀ c ∈ l, Dig c

theorem dlen_all {l : List Int} (h : AllDig l) (r : List Int) (hr : dlen r = 0) : dlen (l ++ r) = l.length := by
  induction l with
  | nil => exact hr
  | cons c t ih =>
    rw [List.cons_append, dlen_cons (h c (List.mem_cons_self ..)), ih (fun d hd => h d (List.mem_cons_of_mem _ hd))]
    rfl
theorem dig_all {l : List Int} (h : AllDig l) (hp : 0 < l.length) (r : List Int) (hr : dlen r = 0) : dig (l ++ r) = some l.length := by
  have := dlen_all h r hr
  unfold dig
  rw [this, if_neg (by omega)]
theorem dg_dig (d : Int) : Dig (dg d) := by unfold Dig dg; omega
theorem digs_all (zs : List Int) : AllDig (digs zs) := by
  intro c hc
  unfold digs at hc
  split at hc
  · simp at hc; subst hc; decide
  · obtain ⟨d, _, rfl⟩ := List.mem_map.1 hc
    exact dg_dig d
theorem digs_pos (zs : List Int) : 0 < (digs zs).length := by
  unfold digs
  split
  · simp
  · simp; omega

/-- The rest that cannot continue a number. -/
structure Ends (r : List Int) : Prop where
  d : dlen r = 0
  e : c4 r = some 0
  f : c3 r = some 0

theorem ends_tl {t : Int} (h : t = 0 ∨ t = 44 ∨ t = 93 ∨ t = 125 ∨ t = 32 ∨ t = 10) : Ends (tl t) := by
  rcases h with rfl | rfl | rfl | rfl | rfl | rfl <;> exact ⟨by decide, by decide, by decide⟩
theorem tailB_cases (k : Int) : tailB k = 0 ∨ tailB k = 44 ∨ tailB k = 93 ∨ tailB k = 125 ∨ tailB k = 32 ∨ tailB k = 10 := by
  unfold tailB
  (repeat' split) <;> simp

theorem c4_exp (k : Int) (zs r : List Int) (hr : Ends r) : c4 (xpB true k zs ++ r) = some (xpB true k zs).length ∧ dlen (xpB true k zs ++ r) = 0 ∧ c3 (xpB true k zs ++ r) = some (xpB true k zs).length := by
  have hd := dig_all (digs_all zs) (digs_pos zs) r hr.d
  have hp := digs_pos zs
  have hf : ∃ c t, digs zs ++ r = c :: t ∧ Dig c := by
    cases hz : digs zs with
    | nil => rw [hz] at hp; simp at hp
    | cons c t => exact ⟨c, t ++ r, rfl, digs_all zs c (by rw [hz]; exact List.mem_cons_self ..)⟩
  obtain ⟨c, t, hct, hc⟩ := hf
  have hx : expo (digs zs ++ r) = some (digs zs).length := by
    rw [hct] at hd ⊢
    simp only [expo]
    rw [if_neg (by unfold Dig at hc; omega)]
    exact hd
  have key : ∀ e : Int, e = 101 ∨ e = 69 → ∀ sg : List Int, sg = [] ∨ sg = [43] ∨ sg = [45] →
      c4 ((e :: sg) ++ digs zs ++ r) = some ((e :: sg) ++ digs zs).length ∧ dlen ((e :: sg) ++ digs zs ++ r) = 0 ∧ c3 ((e :: sg) ++ digs zs ++ r) = some ((e :: sg) ++ digs zs).length := by
    intro e he sg hsg
    have h4 : c4 ((e :: sg) ++ digs zs ++ r) = some ((e :: sg) ++ digs zs).length := by
      simp only [List.cons_append, c4, if_pos he]
      rcases hsg with rfl | rfl | rfl
      · simp [hx]
      · simp [expo, hd]
      · simp [expo, hd]
    refine ⟨h4, ?_, ?_⟩
    · simp only [List.cons_append, dlen]
      rw [if_neg (by unfold Dig; omega)]
    · rw [← h4]
      simp only [List.cons_append, c3]
      rw [if_neg (by omega)]
  have hxp : xpB true k zs = expB k ++ digs zs := rfl
  rw [hxp]
  unfold expB
  (repeat' split)
  · exact key 101 (.inl rfl) [] (.inl rfl)
  · exact key 101 (.inl rfl) [43] (.inr (.inl rfl))
  · exact key 101 (.inl rfl) [45] (.inr (.inr rfl))
  · exact key 69 (.inr rfl) [] (.inl rfl)
  · exact key 69 (.inr rfl) [43] (.inr (.inl rfl))
  · exact key 69 (.inr rfl) [45] (.inr (.inr rfl))

theorem exp_part (b : Bool) (k : Int) (zs r : List Int) (hr : Ends r) : c4 (xpB b k zs ++ r) = some (xpB b k zs).length ∧ dlen (xpB b k zs ++ r) = 0 ∧ c3 (xpB b k zs ++ r) = some (xpB b k zs).length := by
  cases b with
  | true => exact c4_exp k zs r hr
  | false => exact ⟨hr.e, hr.d, hr.f⟩

theorem frac_part (b : Bool) (fr : List Int) (x r : List Int) (m : Nat) (h4 : c4 (x ++ r) = some m) (h0 : dlen (x ++ r) = 0) (h3 : c3 (x ++ r) = some m) :
    c3 (fracB b fr ++ (x ++ r)) = some (m + (fracB b fr).length) ∧ dlen (fracB b fr ++ (x ++ r)) = 0 := by
  cases b with
  | false => exact ⟨by simpa [fracB] using h3, by simpa [fracB] using h0⟩
  | true =>
    have hd := dig_all (digs_all fr) (digs_pos fr) (x ++ r) h0
    have e : fracB true fr = 46 :: digs fr := rfl
    rw [e]
    constructor
    · simp only [List.cons_append, c3, if_true, hd, Option.bind_some]
      rw [List.drop_left' rfl, h4]
      simp
      omega
    · simp only [List.cons_append, dlen]
      rw [if_neg (by decide)]

theorem int_part (zs r : List Int) (m : Nat) (h3 : c3 r = some m) (h0 : dlen r = 0) : c2 (intB zs ++ r) = some (m + (intB zs).length) ∧ ∃ c t, intB zs ++ r = c :: t ∧ Dig c := by
  by_cases hz : zs.length = 0
  · have e : intB zs = [48] := by simp [intB, hz]
    rw [e]
    exact ⟨by simp [c2, h3], 48, r, rfl, by decide⟩
  · obtain ⟨c, hc⟩ : ∃ c, c = 49 + zs.getD 0 0 % 9 := ⟨_, rfl⟩
    have e : intB zs = c :: (zs.drop 1).map dg := by rw [intB, if_neg hz, hc]
    have hcd : Dig c := by unfold Dig; omega
    have hall : AllDig (c :: (zs.drop 1).map dg) := by
      intro d hd
      simp only [List.mem_cons] at hd
      rcases hd with rfl | hd
      · exact hcd
      · obtain ⟨d', _, rfl⟩ := List.mem_map.1 hd
        exact dg_dig d'
    have hd := dig_all hall (by simp) r h0
    rw [e]
    refine ⟨?_, c, _, rfl, hcd⟩
    rw [List.cons_append] at hd ⊢
    simp only [c2]
    rw [if_neg (by omega), hd]
    simp only [Option.bind_some]
    rw [← List.cons_append, List.drop_left' rfl, h3]
    rfl

/-- THE NUMBER. -/
theorem num_build (neg : Bool) (is : List Int) (hf : Bool) (fr : List Int) (he : Bool) (k : Int) (ex : List Int) (t : Int) (ht : t = 0 ∨ t = 44 ∨ t = 93 ∨ t = 125 ∨ t = 32 ∨ t = 10) :
    num (negB neg ++ (intB is ++ (fracB hf fr ++ (xpB he k ex ++ tl t)))) = some ((negB neg).length + (intB is).length + (fracB hf fr).length + (xpB he k ex).length) := by
  obtain ⟨a1, a2, a3⟩ := exp_part he k ex (tl t) (ends_tl ht)
  obtain ⟨b1, b2⟩ := frac_part hf fr _ _ _ a1 a2 a3
  obtain ⟨c1, c, u, c2', c3'⟩ := int_part is _ _ b1 b2
  cases neg with
  | true =>
    simp only [negB, if_true, List.cons_append, List.nil_append, num, c1, Option.map_some, List.length_cons, List.length_nil]
    congr 1
    omega
  | false =>
    rw [show negB false = [] from rfl, List.nil_append, c2']
    simp only [num]
    rw [if_neg (by unfold Dig at c3'; omega), ← c2', c1]
    simp
    omega
end Go.Proofs.Qxb6003361a.Lit
