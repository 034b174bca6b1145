/-
  splitNumber: the walk.
-/
import Derived.Test.Qxb6602829aParts
import Derived.Deep.Cut
namespace Go.Proofs.Qxb6602829a.Split
open Go.RowKit

/-- The number that splitNumber fills, and the place of its result, in memory. -/
structure NumAt (w0 w : World) (neg : Bool) (it fr : ByteArray) (ne : Bool) (ex : ByteArray) : Prop where
  c0 : w.cell? ⟨w0.heap.size + 1, 0, none⟩ = some (.bool neg)
  c1 : w.cell? ⟨w0.heap.size + 1, 1, none⟩ = some (.string it)
  c2 : w.cell? ⟨w0.heap.size + 1, 2, none⟩ = some (.string fr)
  c3 : w.cell? ⟨w0.heap.size + 1, 3, none⟩ = some (.bool ne)
  c4 : w.cell? ⟨w0.heap.size + 1, 4, none⟩ = some (.string ex)
  f : ∀ j, w.frozen? ⟨w0.heap.size + 1, j, none⟩ = false
  r0 : w.cell? ⟨w0.heap.size, 0, none⟩ = some (.bool false)
  r1 : w.cell? ⟨w0.heap.size, 1, none⟩ = some (.string nothing)
  r2 : w.cell? ⟨w0.heap.size, 2, none⟩ = some (.string nothing)
  r3 : w.cell? ⟨w0.heap.size, 3, none⟩ = some (.bool false)
  r4 : w.cell? ⟨w0.heap.size, 4, none⟩ = some (.string nothing)
  g : ∀ j, w.frozen? ⟨w0.heap.size, j, none⟩ = false
  bel : Grown w0 w
  size : w0.heap.size + 1 < w.heap.size

theorem cell_store {w : World} {b o b' o' : Nat} {v u : Value} (h : w.cell? ⟨b', o', none⟩ = some u) (hne : b' ≠ b ∨ o' ≠ o) : (w.setCell ⟨b, o, none⟩ v).cell? ⟨b', o', none⟩ = some u := by
  rw [World.cell?_setCell_other _ _ _ _ (by simp only [ne_eq, Addr.mk.injEq, and_true, not_and]; intro e; rcases hne with hne | hne; exact absurd e.symm hne; exact hne.symm)]
  exact h

def aggOf (o : Option Parts) : Value := .agg #[.bool (pneg o), .string (pint o), .string (pfrac o), .bool (pnegx o), .string (pexpo o)]

/-! ### The sign -/
theorem sign_yes {s : ByteArray} {c : Int} {t : List Int} (h : codes s = c :: t) (hc : c = 45) : spec s = stI s true ((codes s).drop 1) 1 := by
  unfold spec
  rw [h]
  simp [stN, hc]
theorem sign_no {s : ByteArray} {c : Int} {t : List Int} (h : codes s = c :: t) (hc : ¬ c = 45) : spec s = stI s false ((codes s).drop 0) 0 := by
  unfold spec
  rw [List.drop_zero, h]
  simp [stN, hc]
theorem sign_nil {s : ByteArray} (h : ¬ 0 < s.size) : spec s = stI s false ((codes s).drop 0) 0 := by
  have := drop_codes_end s 0 h
  rw [List.drop_zero] at this
  unfold spec
  rw [List.drop_zero, this]
  rfl

/-! ### The integer part -/
theorem int_zero {s : ByteArray} {neg : Bool} {k : Nat} (hk : k < s.size) (hc : (s[k].toNat : Int) = 48) (h : spec s = stI s neg ((codes s).drop k) k) : spec s = stF s neg (s.extract k (k + 1)) ((codes s).drop (k + 1)) (k + 1) := by
  rw [h, drop_codes s k hk]
  simp only [stI, if_pos hc]
theorem int_dig {s : ByteArray} {neg : Bool} {k : Nat} (hk : k < s.size) (hc : ¬ (s[k].toNat : Int) = 48) (hd : Dig (s[k].toNat : Int)) (h : spec s = stI s neg ((codes s).drop k) k) : spec s = stF s neg (s.extract k (skip s k)) ((codes s).drop (skip s k)) (skip s k) := by
  have e : (codes s).drop (skip s k) = ((codes s).drop k).drop (dlen ((codes s).drop k)) := by rw [List.drop_drop]; rfl
  rw [h, e]
  unfold skip
  rw [drop_codes s k hk]
  simp only [stI, if_neg hc, if_pos hd]
theorem int_no {s : ByteArray} {neg : Bool} {k : Nat} (hk : k < s.size) (hd : ¬ Dig (s[k].toNat : Int)) (h : spec s = stI s neg ((codes s).drop k) k) : spec s = none := by
  have hc : ¬ (s[k].toNat : Int) = 48 := by unfold Dig at hd; omega
  rw [h, drop_codes s k hk]
  simp only [stI, if_neg hc, if_neg hd]
/-! ### The fraction -/
theorem frac_no {s : ByteArray} {neg : Bool} {it : ByteArray} {k : Nat} (hk : k < s.size) (hc : (s[k].toNat : Int) = 46) (hd : skip s (k + 1) = k + 1) (h : spec s = stF s neg it ((codes s).drop k) k) : spec s = none := by
  rw [h, drop_codes s k hk]
  have : dlen ((codes s).drop (k + 1)) = 0 := by unfold skip at hd; omega
  simp only [stF, if_pos hc, stG, if_pos this]
theorem frac_yes {s : ByteArray} {neg : Bool} {it : ByteArray} {k : Nat} (hk : k < s.size) (hc : (s[k].toNat : Int) = 46) (hd : ¬ skip s (k + 1) = k + 1) (h : spec s = stF s neg it ((codes s).drop k) k) :
    spec s = stE s neg it (s.extract (k + 1) (skip s (k + 1))) ((codes s).drop (skip s (k + 1))) (skip s (k + 1)) := by
  have e : (codes s).drop (skip s (k + 1)) = ((codes s).drop (k + 1)).drop (dlen ((codes s).drop (k + 1))) := by rw [List.drop_drop]; rfl
  rw [h, drop_codes s k hk, e]
  have : ¬ dlen ((codes s).drop (k + 1)) = 0 := by unfold skip at hd; omega
  simp only [stF, if_pos hc, stG, if_neg this]
  rfl
theorem frac_none {s : ByteArray} {neg : Bool} {it : ByteArray} {k : Nat} (hk : k < s.size) (hc : ¬ (s[k].toNat : Int) = 46) (h : spec s = stF s neg it ((codes s).drop k) k) : spec s = stE s neg it nothing ((codes s).drop k) k := by
  rw [h, drop_codes s k hk]
  simp only [stF, if_neg hc]
theorem frac_end {s : ByteArray} {neg : Bool} {it : ByteArray} {k : Nat} (hk : ¬ k < s.size) (h : spec s = stF s neg it ((codes s).drop k) k) : spec s = stE s neg it nothing ((codes s).drop k) k := by
  rw [h, drop_codes_end s k hk]
  rfl

/-! ### The exponent -/
theorem exp_yes {s : ByteArray} {neg : Bool} {it fr : ByteArray} {k : Nat} (hk : k < s.size) (hc : (s[k].toNat : Int) = 101 ∨ (s[k].toNat : Int) = 69) (h : spec s = stE s neg it fr ((codes s).drop k) k) : spec s = stX s neg it fr ((codes s).drop (k + 1)) (k + 1) := by
  rw [h, drop_codes s k hk]
  simp only [stE, if_pos hc]
theorem exp_no {s : ByteArray} {neg : Bool} {it fr : ByteArray} {k : Nat} (hk : k < s.size) (hc : ¬ ((s[k].toNat : Int) = 101 ∨ (s[k].toNat : Int) = 69)) (h : spec s = stE s neg it fr ((codes s).drop k) k) :
    spec s = if k = s.size then some ⟨neg, it, fr, false, nothing⟩ else none := by
  rw [h, drop_codes s k hk, if_neg (by omega)]
  simp only [stE, if_neg hc]
theorem exp_end {s : ByteArray} {neg : Bool} {it fr : ByteArray} {k : Nat} (hk : ¬ k < s.size) (hk' : k ≤ s.size) (h : spec s = stE s neg it fr ((codes s).drop k) k) :
    spec s = if k = s.size then some ⟨neg, it, fr, false, nothing⟩ else none := by
  rw [h, drop_codes_end s k hk, if_pos (by omega)]
  rfl
theorem sgn_plus {s : ByteArray} {neg : Bool} {it fr : ByteArray} {k : Nat} (hk : k < s.size) (hc : (s[k].toNat : Int) = 43) (h : spec s = stX s neg it fr ((codes s).drop k) k) : spec s = stD s neg it fr false ((codes s).drop (k + 1)) (k + 1) := by
  rw [h, drop_codes s k hk]
  simp only [stX, if_pos hc]
theorem sgn_minus {s : ByteArray} {neg : Bool} {it fr : ByteArray} {k : Nat} (hk : k < s.size) (hc : (s[k].toNat : Int) = 45) (h : spec s = stX s neg it fr ((codes s).drop k) k) : spec s = stD s neg it fr true ((codes s).drop (k + 1)) (k + 1) := by
  rw [h, drop_codes s k hk]
  simp only [stX, hc]
  rfl
theorem sgn_none {s : ByteArray} {neg : Bool} {it fr : ByteArray} {k : Nat} (hk : k < s.size) (h1 : ¬ (s[k].toNat : Int) = 43) (h2 : ¬ (s[k].toNat : Int) = 45) (h : spec s = stX s neg it fr ((codes s).drop k) k) : spec s = stD s neg it fr false ((codes s).drop k) k := by
  rw [h, drop_codes s k hk]
  simp only [stX, if_neg h1, if_neg h2]
theorem sgn_end {s : ByteArray} {neg : Bool} {it fr : ByteArray} {k : Nat} (hk : ¬ k < s.size) (h : spec s = stX s neg it fr ((codes s).drop k) k) : spec s = stD s neg it fr false ((codes s).drop k) k := by
  rw [h, drop_codes_end s k hk]
  rfl
theorem expd_no {s : ByteArray} {neg : Bool} {it fr : ByteArray} {ne : Bool} {k : Nat} (hd : skip s k = k) (h : spec s = stD s neg it fr ne ((codes s).drop k) k) : spec s = none := by
  have : dlen ((codes s).drop k) = 0 := by unfold skip at hd; omega
  rw [h]
  simp only [stD, if_pos this]
theorem expd_yes {s : ByteArray} {neg : Bool} {it fr : ByteArray} {ne : Bool} {k : Nat} (hk : k ≤ s.size) (hd : ¬ skip s k = k) (h : spec s = stD s neg it fr ne ((codes s).drop k) k) :
    spec s = if skip s k = s.size then some ⟨neg, it, fr, ne, s.extract k (skip s k)⟩ else none := by
  have h0 : ¬ dlen ((codes s).drop k) = 0 := by unfold skip at hd; omega
  have hl : ((codes s).drop k).length = s.size - k := by rw [List.length_drop, len_codes]
  rw [h]
  simp only [stD, if_neg h0, hl]
  by_cases e : skip s k = s.size
  · rw [if_pos e, if_pos (by unfold skip at e; omega), e]
  · rw [if_neg e, if_neg (by unfold skip at e; omega)]

section
variable {w0 w : World} {neg : Bool} {it fr : ByteArray} {ne : Bool} {ex : ByteArray}
theorem NumAt.set0 (h : NumAt w0 w neg it fr ne ex) (b : Bool) : NumAt w0 (w.setCell ⟨w0.heap.size + 1, 0, none⟩ (.bool b)) b it fr ne ex where
  c0 := World.cell?_setCell_same _ _ _ h.c0
  c1 := cell_store h.c1 (.inr (by decide))
  c2 := cell_store h.c2 (.inr (by decide))
  c3 := cell_store h.c3 (.inr (by decide))
  c4 := cell_store h.c4 (.inr (by decide))
  f := fun j => (World.frozen?_setCell _ _ _ _).trans (h.f j)
  r0 := cell_store h.r0 (.inl (by omega))
  r1 := cell_store h.r1 (.inl (by omega))
  r2 := cell_store h.r2 (.inl (by omega))
  r3 := cell_store h.r3 (.inl (by omega))
  r4 := cell_store h.r4 (.inl (by omega))
  g := fun j => (World.frozen?_setCell _ _ _ _).trans (h.g j)
  bel := h.bel.setCell (by simp) _
  size := by simpa [World.setCell] using h.size
theorem NumAt.set1 (h : NumAt w0 w neg it fr ne ex) (b : ByteArray) : NumAt w0 (w.setCell ⟨w0.heap.size + 1, 1, none⟩ (.string b)) neg b fr ne ex where
  c0 := cell_store h.c0 (.inr (by decide))
  c1 := World.cell?_setCell_same _ _ _ h.c1
  c2 := cell_store h.c2 (.inr (by decide))
  c3 := cell_store h.c3 (.inr (by decide))
  c4 := cell_store h.c4 (.inr (by decide))
  f := fun j => (World.frozen?_setCell _ _ _ _).trans (h.f j)
  r0 := cell_store h.r0 (.inl (by omega))
  r1 := cell_store h.r1 (.inl (by omega))
  r2 := cell_store h.r2 (.inl (by omega))
  r3 := cell_store h.r3 (.inl (by omega))
  r4 := cell_store h.r4 (.inl (by omega))
  g := fun j => (World.frozen?_setCell _ _ _ _).trans (h.g j)
  bel := h.bel.setCell (by simp) _
  size := by simpa [World.setCell] using h.size
theorem NumAt.set2 (h : NumAt w0 w neg it fr ne ex) (b : ByteArray) : NumAt w0 (w.setCell ⟨w0.heap.size + 1, 2, none⟩ (.string b)) neg it b ne ex where
  c0 := cell_store h.c0 (.inr (by decide))
  c1 := cell_store h.c1 (.inr (by decide))
  c2 := World.cell?_setCell_same _ _ _ h.c2
  c3 := cell_store h.c3 (.inr (by decide))
  c4 := cell_store h.c4 (.inr (by decide))
  f := fun j => (World.frozen?_setCell _ _ _ _).trans (h.f j)
  r0 := cell_store h.r0 (.inl (by omega))
  r1 := cell_store h.r1 (.inl (by omega))
  r2 := cell_store h.r2 (.inl (by omega))
  r3 := cell_store h.r3 (.inl (by omega))
  r4 := cell_store h.r4 (.inl (by omega))
  g := fun j => (World.frozen?_setCell _ _ _ _).trans (h.g j)
  bel := h.bel.setCell (by simp) _
  size := by simpa [World.setCell] using h.size
theorem NumAt.set3 (h : NumAt w0 w neg it fr ne ex) (b : Bool) : NumAt w0 (w.setCell ⟨w0.heap.size + 1, 3, none⟩ (.bool b)) neg it fr b ex where
  c0 := cell_store h.c0 (.inr (by decide))
  c1 := cell_store h.c1 (.inr (by decide))
  c2 := cell_store h.c2 (.inr (by decide))
  c3 := World.cell?_setCell_same _ _ _ h.c3
  c4 := cell_store h.c4 (.inr (by decide))
  f := fun j => (World.frozen?_setCell _ _ _ _).trans (h.f j)
  r0 := cell_store h.r0 (.inl (by omega))
  r1 := cell_store h.r1 (.inl (by omega))
  r2 := cell_store h.r2 (.inl (by omega))
  r3 := cell_store h.r3 (.inl (by omega))
  r4 := cell_store h.r4 (.inl (by omega))
  g := fun j => (World.frozen?_setCell _ _ _ _).trans (h.g j)
  bel := h.bel.setCell (by simp) _
  size := by simpa [World.setCell] using h.size
theorem NumAt.set4 (h : NumAt w0 w neg it fr ne ex) (b : ByteArray) : NumAt w0 (w.setCell ⟨w0.heap.size + 1, 4, none⟩ (.string b)) neg it fr ne b where
  c0 := cell_store h.c0 (.inr (by decide))
  c1 := cell_store h.c1 (.inr (by decide))
  c2 := cell_store h.c2 (.inr (by decide))
  c3 := cell_store h.c3 (.inr (by decide))
  c4 := World.cell?_setCell_same _ _ _ h.c4
  f := fun j => (World.frozen?_setCell _ _ _ _).trans (h.f j)
  r0 := cell_store h.r0 (.inl (by omega))
  r1 := cell_store h.r1 (.inl (by omega))
  r2 := cell_store h.r2 (.inl (by omega))
  r3 := cell_store h.r3 (.inl (by omega))
  r4 := cell_store h.r4 (.inl (by omega))
  g := fun j => (World.frozen?_setCell _ _ _ _).trans (h.g j)
  bel := h.bel.setCell (by simp) _
  size := by simpa [World.setCell] using h.size
/-- The result is stored. -/
theorem NumAt.put (h : NumAt w0 w neg it fr ne ex) (b0 : Bool) (t1 t2 : ByteArray) (b3 : Bool) (t4 : ByteArray) (W : World)
    (hW : W = ((((w.setCell ⟨w0.heap.size, 0, none⟩ (.bool b0)).setCell ⟨w0.heap.size, 1, none⟩ (.string t1)).setCell ⟨w0.heap.size, 2, none⟩ (.string t2)).setCell ⟨w0.heap.size, 3, none⟩ (.bool b3)).setCell ⟨w0.heap.size, 4, none⟩ (.string t4)) :
    W.cell? ⟨w0.heap.size, 0, none⟩ = some (.bool b0) ∧ W.cell? ⟨w0.heap.size, 1, none⟩ = some (.string t1) ∧ W.cell? ⟨w0.heap.size, 2, none⟩ = some (.string t2) ∧ W.cell? ⟨w0.heap.size, 3, none⟩ = some (.bool b3) ∧
      W.cell? ⟨w0.heap.size, 4, none⟩ = some (.string t4) ∧ Grown w0 W := by
  subst hW
  have a0 := World.cell?_setCell_same _ _ (.bool b0) h.r0
  have a1 := World.cell?_setCell_same _ _ (.string t1) (cell_store (b := w0.heap.size) (o := 0) (v := .bool b0) h.r1 (.inr (by decide)))
  have a2 := World.cell?_setCell_same _ _ (.string t2) (cell_store (b := w0.heap.size) (o := 1) (v := .string t1) (cell_store (b := w0.heap.size) (o := 0) (v := .bool b0) h.r2 (.inr (by decide))) (.inr (by decide)))
  have a3 := World.cell?_setCell_same _ _ (.bool b3) (cell_store (b := w0.heap.size) (o := 2) (v := .string t2) (cell_store (b := w0.heap.size) (o := 1) (v := .string t1) (cell_store (b := w0.heap.size) (o := 0) (v := .bool b0) h.r3 (.inr (by decide))) (.inr (by decide))) (.inr (by decide)))
  have a4 := World.cell?_setCell_same _ _ (.string t4) (cell_store (b := w0.heap.size) (o := 3) (v := .bool b3) (cell_store (b := w0.heap.size) (o := 2) (v := .string t2) (cell_store (b := w0.heap.size) (o := 1) (v := .string t1) (cell_store (b := w0.heap.size) (o := 0) (v := .bool b0) h.r4 (.inr (by decide))) (.inr (by decide))) (.inr (by decide))) (.inr (by decide)))
  refine ⟨?_, ?_, ?_, ?_, a4, ?_⟩
  · exact cell_store (cell_store (cell_store (cell_store a0 (.inr (by decide))) (.inr (by decide))) (.inr (by decide))) (.inr (by decide))
  · exact cell_store (cell_store (cell_store a1 (.inr (by decide))) (.inr (by decide))) (.inr (by decide))
  · exact cell_store (cell_store a2 (.inr (by decide))) (.inr (by decide))
  · exact cell_store a3 (.inr (by decide))
  · exact ((((h.bel.setCell (Nat.le_refl _) _).setCell (Nat.le_refl _) _).setCell (Nat.le_refl _) _).setCell (Nat.le_refl _) _).setCell (Nat.le_refl _) _
end

/-- The end of a refused text. -/
theorem refused {o : Option Parts} (h : o = none) : Ending.returned (.tuple #[.agg #[.bool false, .string ⟨#[]⟩, .string ⟨#[]⟩, .bool false, .string ⟨#[]⟩], .bool false]) = .returned (.tuple #[aggOf o, .bool (pok o)]) := by
  rw [h]
  rfl
theorem taken {o : Option Parts} {neg : Bool} {it fr : ByteArray} {ne : Bool} {ex : ByteArray} (h : o = some ⟨neg, it, fr, ne, ex⟩) : Ending.returned (.tuple #[.agg #[.bool neg, .string it, .string fr, .bool ne, .string ex], .bool true]) = .returned (.tuple #[aggOf o, .bool (pok o)]) := by
  rw [h]
  rfl

/-- A part of a function's text. -/
def sub : List Bool → Code → Code
  | [], c => c
  | false :: p, .seq a _ => sub p a
  | true :: p, .seq _ b => sub p b
  | _ :: _, c => c

set_option maxRecDepth 100000 in
set_option maxHeartbeats 1600000 in
/-- The statement on the exponent, by itself. -/
theorem exp_part (s : ByteArray) (w : World) (hs : s.size ≤ 1048576) (neg : Bool) (k : Nat) (it fr : ByteArray) (k3 : Nat) (hk3 : k3 ≤ s.size) (hsp : Hid (spec s = stE s neg it fr ((codes s).drop k3) k3)) (wf : World)
    (HN : Hid (NumAt w wf neg it fr false nothing)) (u3 u7 u9 u10 u11 u12 u13 u14 u15 u16 u17 u18 u19 u20 u21 u22 u23 u24 u25 u26 u27 u28 u29 u30 u31 u32 u33 u34 u35 u36 u37 u38 u39 u40 u41 u42 u43 u44 u45 u46 u47 u48 u49 u50 u51 u52 u53 u54 u55 u56 u57 u58 u59 u60 u61 u62 u63 u64 u65 u66 u67 u68 u69 u70 u71 u72 u73 u74 u75 u76 u77 u78 u79 u80 u81 u82 u83 u84 u85 u86 u87 u88 u89 u90 u91 u92 u93 u94 u95 u96 u97 u98 u99 u100 u101 u102 u103 u104 u105 u106 u107 u108 u109 u110 u111 u112 u113 u114 u115 u116 u117 u118 u119 u120 u121 u122 u123 u124 u125 u126 u127 u128 u129 u130 u131 u132 u133 u134 u135 u136 u137 u138 u139 u140 u141 u142 u143 : Value) (K : Act → World → Prop)
    (hK : ∀ (v5 v8 v9 v10 v11 v12 v13 v14 v15 v16 v17 v18 v19 v20 v21 v22 v23 v24 v25 v26 v27 v28 v29 v30 v31 v32 v33 v34 v35 v36 v37 v38 v39 v40 v41 v42 v43 v44 v45 v46 v47 v48 v49 v50 v51 v52 v53 v54 v55 v56 v57 v58 v59 v60 v61 v62 v63 v64 v65 v66 v67 v68 v69 v70 v71 v72 v73 v74 v75 v76 v77 v78 v79 v80 v81 v82 v83 v84 v85 v86 v87 v88 v89 v90 v91 v92 v93 v94 v95 v96 v97 v98 v99 v100 v101 v102 v103 v104 v105 v106 v107 v108 v109 v110 v111 v112 v113 v114 v115 v116 v117 v118 v119 v120 v121 v122 v123 v124 v125 v126 v127 v128 v129 v130 v131 v132 v133 v134 v135 v136 v137 v138 v139 v140 v141 v142 v143 : Value) (wc : World), (∃ (k4 : Nat) (ne : Bool) (ex : ByteArray), v5 = .int .i64 k4 ∧ k4 ≤ s.size ∧ NumAt w wc neg it fr ne ex ∧ Hid (spec s = if k4 = s.size then some ⟨neg, it, fr, ne, ex⟩ else none)) → K ⟨List.toArray (.string s :: undef :: .pointer (some ⟨w.heap.size, 0, none⟩) :: u3 :: .pointer (some ⟨w.heap.size + 1, 0, none⟩) :: v5 :: .int .i64 k :: u7 :: v8 :: v9 :: v10 :: v11 :: v12 :: v13 :: v14 :: v15 :: v16 :: v17 :: v18 :: v19 :: v20 :: v21 :: v22 :: v23 :: v24 :: v25 :: v26 :: v27 :: v28 :: v29 :: v30 :: v31 :: v32 :: v33 :: v34 :: v35 :: v36 :: v37 :: v38 :: v39 :: v40 :: v41 :: v42 :: v43 :: v44 :: v45 :: v46 :: v47 :: v48 :: v49 :: v50 :: v51 :: v52 :: v53 :: v54 :: v55 :: v56 :: v57 :: v58 :: v59 :: v60 :: v61 :: v62 :: v63 :: v64 :: v65 :: v66 :: v67 :: v68 :: v69 :: v70 :: v71 :: v72 :: v73 :: v74 :: v75 :: v76 :: v77 :: v78 :: v79 :: v80 :: v81 :: v82 :: v83 :: v84 :: v85 :: v86 :: v87 :: v88 :: v89 :: v90 :: v91 :: v92 :: v93 :: v94 :: v95 :: v96 :: v97 :: v98 :: v99 :: v100 :: v101 :: v102 :: v103 :: v104 :: v105 :: v106 :: v107 :: v108 :: v109 :: v110 :: v111 :: v112 :: v113 :: v114 :: v115 :: v116 :: v117 :: v118 :: v119 :: v120 :: v121 :: v122 :: v123 :: v124 :: v125 :: v126 :: v127 :: v128 :: v129 :: v130 :: v131 :: v132 :: v133 :: v134 :: v135 :: v136 :: v137 :: v138 :: v139 :: v140 :: v141 :: v142 :: v143 :: []), []⟩ wc) :
    Code.wp Try.prog (sub [true, true, true, true, true, true, true, true, false] (Try.f13.body.getD .skip)) (Exit.then K (bodyPost Try.prog Try.f13 fun e w' => e = Ending.returned (.tuple #[aggOf (spec s), .bool (pok (spec s))]) ∧ Grown w w')) ⟨List.toArray (.string s :: undef :: .pointer (some ⟨w.heap.size, 0, none⟩) :: u3 :: .pointer (some ⟨w.heap.size + 1, 0, none⟩) :: .int .i64 k3 :: .int .i64 k :: u7 :: undef :: u9 :: u10 :: u11 :: u12 :: u13 :: u14 :: u15 :: u16 :: u17 :: u18 :: u19 :: u20 :: u21 :: u22 :: u23 :: u24 :: u25 :: u26 :: u27 :: u28 :: u29 :: u30 :: u31 :: u32 :: u33 :: u34 :: u35 :: u36 :: u37 :: u38 :: u39 :: u40 :: u41 :: u42 :: u43 :: u44 :: u45 :: u46 :: u47 :: u48 :: u49 :: u50 :: u51 :: u52 :: u53 :: u54 :: u55 :: u56 :: u57 :: u58 :: u59 :: u60 :: u61 :: u62 :: u63 :: u64 :: u65 :: u66 :: u67 :: u68 :: u69 :: u70 :: u71 :: u72 :: u73 :: u74 :: u75 :: u76 :: u77 :: u78 :: u79 :: u80 :: u81 :: u82 :: u83 :: u84 :: u85 :: u86 :: u87 :: u88 :: u89 :: u90 :: u91 :: u92 :: u93 :: u94 :: u95 :: u96 :: u97 :: u98 :: u99 :: u100 :: u101 :: u102 :: u103 :: u104 :: u105 :: u106 :: u107 :: u108 :: u109 :: u110 :: u111 :: u112 :: u113 :: u114 :: u115 :: u116 :: u117 :: u118 :: u119 :: u120 :: u121 :: u122 :: u123 :: u124 :: u125 :: u126 :: u127 :: u128 :: u129 :: u130 :: u131 :: u132 :: u133 :: u134 :: u135 :: u136 :: u137 :: u138 :: u139 :: u140 :: u141 :: u142 :: u143 :: []), []⟩ wf := by
  conv => arg 2; whnf
  by_cases hp : k3 < s.size
  · by_cases hz : (s[k3].toNat : Int) = 101 ∨ (s[k3].toNat : Int) = 69
    · have HS3 := hid_of (exp_yes hp hz hsp.out)
      clear hsp
      go_upto_region 19 with fail
      go_cut [99] from 9 (fun b wc => b = .bool true ∧ NumAt w wc neg it fr false nothing)
      case first =>
        rcases hz with hz | hz
        all_goals
          go_wp2
          go_meet
          case rel => exact ⟨rfl, HN.out⟩
      case rest =>
        clear HN hz
        obtain ⟨rfl, hn⟩ := hcut
        obtain ⟨wv, hwv⟩ : ∃ wv, wv = wc := ⟨_, rfl⟩
        subst hwv
        have HN := hid_of hn
        clear hn
        go_upto_region 20 with fail
        go_cut [5] from 9 (fun i wc => i = .int .i64 ((k3 : Int) + 1) ∧ NumAt w wc neg it fr false nothing)
        case first =>
          go_wp2
          go_meet
          case rel => exact ⟨rfl, HN.out⟩
        case rest =>
          clear HN
          obtain ⟨rfl, hn⟩ := hcut
          obtain ⟨wh, hwh⟩ : ∃ wh, wh = wc := ⟨_, rfl⟩
          subst hwh
          have HN := hid_of hn
          have h3 := hn.c3
          have hf := hn.f
          clear hn
          go_step
          go_step
          go_cut [5] from 9 (fun i wc => ∃ (k5 : Nat) (ne : Bool), i = .int .i64 k5 ∧ k5 ≤ s.size ∧ NumAt w wc neg it fr ne nothing ∧ Hid (spec s = stD s neg it fr ne ((codes s).drop k5) k5))
          case first =>
            by_cases hp2 : k3 + 1 < s.size
            · by_cases y1 : (s[k3 + 1].toNat : Int) = 43
              · have HS := hid_of (sgn_plus hp2 y1 HS3.out)
                have HX := hid_of (HN.out.set3 false)
                clear HS3
                go_wp2
                go_meet
                case rel => exact ⟨k3 + 1 + 1, false, by go_num, hp2, HX.out, HS.out⟩
              · by_cases y2 : (s[k3 + 1].toNat : Int) = 45
                · have HS := hid_of (sgn_minus hp2 y2 HS3.out)
                  have HX := hid_of (HN.out.set3 true)
                  clear HS3
                  go_wp2
                  go_meet
                  case rel => exact ⟨k3 + 1 + 1, true, by go_num, hp2, HX.out, HS.out⟩
                · have HS := hid_of (sgn_none hp2 y1 y2 HS3.out)
                  have y1' : ((s[k3 + 1].toNat : Int) == 43) = false := by simpa using y1
                  have y2' : ((s[k3 + 1].toNat : Int) == 45) = false := by simpa using y2
                  clear HS3
                  go_wp2
                  go_meet
                  case rel => exact ⟨k3 + 1, false, by go_num, hp, HN.out, HS.out⟩
            · have HS := hid_of (sgn_end hp2 HS3.out)
              have hp2' : s.size ≤ k3 + 1 := by omega
              clear HS3 hp2
              go_wp2
              go_meet
              case rel => exact ⟨k3 + 1, false, by go_num, hp, HN.out, HS.out⟩
          case rest =>
            clear HN h3 hf HS3
            obtain ⟨k5, ne, rfl, hk5, hn, hsp⟩ := hcut
            obtain ⟨wi, hwi⟩ : ∃ wi, wi = wc := ⟨_, rfl⟩
            subst hwi
            have HN := hid_of hn
            have r0 := hn.r0
            have r1 := hn.r1
            have r2 := hn.r2
            have r3 := hn.r3
            have r4 := hn.r4
            have hg := hn.g
            have h4 := hn.c4
            have hf := hn.f
            clear hn
            obtain ⟨e1, e2⟩ := skip_le s k5 hk5
            by_cases hd : skip s k5 = k5
            · have HS := hid_of (expd_no hd hsp.out)
              have hdd : (((skip s k5 : Nat) : Int) == (k5 : Int)) = true := by rw [hd]; simp
              clear hsp hd
              go_wp2_with fail
              refine (skip_any s k5 _ hs hk5).mono ?_
              rintro e w' ⟨rfl, hww⟩
              obtain rfl : wi = w' := hww.symm
              go_wp2
              obtain ⟨q0, q1, q2, q3, q4, qb⟩ := HN.out.put false ⟨#[]⟩ ⟨#[]⟩ false ⟨#[]⟩ _ rfl
              exact bodyPost_ret (v := .tuple #[.agg #[.bool false, .string ⟨#[]⟩, .string ⟨#[]⟩, .bool false, .string ⟨#[]⟩], .bool false]) (by simp [results, Try.results13, go_sem, q0, q1, q2, q3, q4]) rfl ⟨refused HS.out, qb⟩
            · have HS := hid_of (expd_yes hk5 hd hsp.out)
              have hdd : (((skip s k5 : Nat) : Int) == (k5 : Int)) = false := by simp; omega
              have HX := hid_of (HN.out.set4 (s.extract k5 (skip s k5)))
              clear hsp hd
              go_wp2_with fail
              refine (skip_any s k5 _ hs hk5).mono ?_
              rintro e w' ⟨rfl, hww⟩
              obtain rfl : wi = w' := hww.symm
              go_wp2
              exact ⟨skip s k5, ne, _, rfl, e2, HX.out, HS.out⟩
    · have HS := hid_of (exp_no hp hz hsp.out)
      have z1 : ((s[k3].toNat : Int) == 101) = false := by simp; omega
      have z2 : ((s[k3].toNat : Int) == 69) = false := by simp; omega
      clear hsp hz
      go_wp2
      exact ⟨k3, false, nothing, rfl, hk3, HN.out, HS.out⟩
  · have HS := hid_of (exp_end hp hk3 hsp.out)
    have hp' : s.size ≤ k3 := by omega
    clear hsp hp
    go_wp2
    exact ⟨k3, false, nothing, rfl, hk3, HN.out, HS.out⟩


set_option maxRecDepth 20000 in
set_option maxHeartbeats 1600000 in
theorem split_any (s : ByteArray) (w : World) (hs : s.size ≤ 1048576) :
    Calls Try.prog 13 #[.string s] w fun e w' => e = .returned (.tuple #[aggOf (spec s), .bool (pok (spec s))]) ∧ Grown w w' := by
  go_enter Try.func13, Try.ntmps13
  go_upto_region 2 with fail
  go_cut [5] from 9 (fun i wc => i = .int .i64 0 ∧ NumAt w wc false nothing nothing false nothing)
  case first =>
    go_wp2
    go_meet
    case rel =>
      refine ⟨rfl, ?_⟩
      exact { c0 := by simp [go_sem], c1 := by simp [go_sem, nothing], c2 := by simp [go_sem, nothing], c3 := by simp [go_sem], c4 := by simp [go_sem, nothing], f := by simp [go_sem], r0 := by simp [go_sem], r1 := by simp [go_sem, nothing], r2 := by simp [go_sem, nothing], r3 := by simp [go_sem], r4 := by simp [go_sem, nothing], g := by simp [go_sem], bel := ((Grown.refl _).alloc _ _).alloc _ _, size := by simp }
  case rest =>
    obtain ⟨rfl, hn⟩ := hcut
    obtain ⟨wa, hwa⟩ : ∃ wa, wa = wc := ⟨_, rfl⟩
    subst hwa
    have h0 := hn.c0
    have hf := hn.f
    have HN := hid_of hn
    clear hn
    go_step
    go_step
    go_cut [5] from 9 (fun i wc => ∃ (neg : Bool) (k : Nat), i = .int .i64 k ∧ k ≤ s.size ∧ NumAt w wc neg nothing nothing false nothing ∧ Hid (spec s = stI s neg ((codes s).drop k) k))
    case first =>
      by_cases hp : 0 < s.size
      · have hc := drop_codes s 0 hp
        rw [List.drop_zero] at hc
        cases hm : ((s[0].toNat : Int) == 45) with
        | true =>
          have HS := hid_of (sign_yes hc (by simpa using hm))
          have HX := hid_of (HN.out.set0 true)
          clear hc
          go_wp2
          go_meet
          case rel => exact ⟨true, 1, rfl, hp, HX.out, HS.out⟩
        | false =>
          have HS := hid_of (sign_no hc (by simpa using hm))
          clear hc
          go_wp2
          go_meet
          case rel => exact ⟨false, 0, rfl, Nat.zero_le _, HN.out, HS.out⟩
      · have HS := hid_of (sign_nil hp)
        have hp' : s.size ≤ 0 := by omega
        go_wp2
        go_meet
        case rel => exact ⟨false, 0, rfl, Nat.zero_le _, HN.out, HS.out⟩
    case rest =>
      clear HN h0 hf
      obtain ⟨neg, k, rfl, hk, hn, hsp⟩ := hcut
      obtain ⟨wb, hwb⟩ : ∃ wb, wb = wc := ⟨_, rfl⟩
      subst hwb
      have HN := hid_of hn
      clear hn
      go_upto_region 6 with fail
      go_cut [6] from 9 (fun i wc => i = .int .i64 k ∧ NumAt w wc neg nothing nothing false nothing)
      case first =>
        go_wp2
        go_meet
        case rel => exact ⟨rfl, HN.out⟩
      case rest =>
        clear HN
        obtain ⟨rfl, hn⟩ := hcut
        obtain ⟨wb2, hwb2⟩ : ∃ wb2, wb2 = wc := ⟨_, rfl⟩
        subst hwb2
        have HN := hid_of hn
        have r0 := hn.r0
        have r1 := hn.r1
        have r2 := hn.r2
        have r3 := hn.r3
        have r4 := hn.r4
        have hg := hn.g
        clear hn
        go_step
        go_step
        go_cut [5] from 9 (fun i wc => ∃ k2 : Nat, i = .int .i64 k2 ∧ k ≤ k2 ∧ k2 ≤ s.size ∧ NumAt w wc neg nothing nothing false nothing ∧ Hid (spec s = stF s neg (s.extract k k2) ((codes s).drop k2) k2))
        case first =>
          by_cases hp : k < s.size
          · by_cases hz : (s[k].toNat : Int) = 48
            · have HS := hid_of (int_zero hp hz hsp.out)
              go_wp2
              go_meet
              case rel => exact ⟨k + 1, by go_num, by omega, hp, HN.out, HS.out⟩
            · by_cases hd : 49 ≤ (s[k].toNat : Int) ∧ (s[k].toNat : Int) ≤ 57
              · have HS := hid_of (int_dig hp hz ⟨by omega, hd.2⟩ hsp.out)
                obtain ⟨d1, d2⟩ := hd
                obtain ⟨e1, e2⟩ := skip_le s k hk
                have hz' : ((s[k].toNat : Int) == 48) = false := by simpa using hz
                go_wp2_with (go_at_call 15; refine (skip_any s k _ hs hk).mono ?_; rintro e w' ⟨rfl, rfl⟩)
                go_meet
                case rel => exact ⟨skip s k, rfl, e1, e2, HN.out, HS.out⟩
              · have HS := hid_of (int_no hp (by unfold Dig; omega) hsp.out)
                have hz' : ((s[k].toNat : Int) == 48) = false := by simpa using hz
                clear hsp
                go_wp2
                all_goals
                  obtain ⟨q0, q1, q2, q3, q4, qb⟩ := HN.out.put false ⟨#[]⟩ ⟨#[]⟩ false ⟨#[]⟩ _ rfl
                  exact bodyPost_ret (v := .tuple #[.agg #[.bool false, .string ⟨#[]⟩, .string ⟨#[]⟩, .bool false, .string ⟨#[]⟩], .bool false]) (by simp [results, Try.results13, go_sem, q0, q1, q2, q3, q4]) rfl ⟨refused HS.out, qb⟩
          · have HS : Hid (spec s = none) := hsp.out.trans (by rw [drop_codes_end s k hp]; rfl)
            have hp' : s.size ≤ k := by omega
            clear hsp hp
            go_wp2
            obtain ⟨q0, q1, q2, q3, q4, qb⟩ := HN.out.put false ⟨#[]⟩ ⟨#[]⟩ false ⟨#[]⟩ _ rfl
            exact bodyPost_ret (v := .tuple #[.agg #[.bool false, .string ⟨#[]⟩, .string ⟨#[]⟩, .bool false, .string ⟨#[]⟩], .bool false]) (by simp [results, Try.results13, go_sem, q0, q1, q2, q3, q4]) rfl ⟨refused HS.out, qb⟩
        case rest =>
          clear HN r0 r1 r2 r3 r4 hg hsp
          obtain ⟨k2, rfl, hkk, hk2, hn, hsp⟩ := hcut
          obtain ⟨wd, hwd⟩ : ∃ wd, wd = wc := ⟨_, rfl⟩
          subst hwd
          have HN := hid_of hn
          have h1 := hn.c1
          have hf := hn.f
          have HX := hid_of (hn.set1 (s.extract k k2))
          clear hn
          go_upto_region 12 with fail
          go_cut [] from 9 (fun wc => NumAt w wc neg (s.extract k k2) nothing false nothing)
          case first =>
            go_wp2
            go_meet
            case rel => exact HX.out
          case rest =>
            clear HN h1 hf HX
            obtain ⟨we, hwe⟩ : ∃ we, we = wc := ⟨_, rfl⟩
            subst hwe
            obtain ⟨it, hit⟩ : ∃ it, s.extract k k2 = it := ⟨_, rfl⟩
            rw [hit] at hcut hsp
            clear hit
            have HN := hid_of hcut
            have r0 := hcut.r0
            have r1 := hcut.r1
            have r2 := hcut.r2
            have r3 := hcut.r3
            have r4 := hcut.r4
            have hg := hcut.g
            have h2 := hcut.c2
            have hf := hcut.f
            clear hcut
            go_step
            go_step
            go_cut [5] from 9 (fun i wc => ∃ (k3 : Nat) (fr : ByteArray), i = .int .i64 k3 ∧ k3 ≤ s.size ∧ NumAt w wc neg it fr false nothing ∧ Hid (spec s = stE s neg it fr ((codes s).drop k3) k3))
            case first =>
              by_cases hp : k2 < s.size
              · by_cases hz : (s[k2].toNat : Int) = 46
                · obtain ⟨e1, e2⟩ := skip_le s (k2 + 1) hp
                  by_cases hd : skip s (k2 + 1) = k2 + 1
                  · have HS := hid_of (frac_no hp hz hd hsp.out)
                    have hdd : (((skip s (k2 + 1) : Nat) : Int) == (k2 : Int) + 1) = true := by rw [hd]; simp
                    clear hsp hd
                    go_wp2_with fail
                    refine (skip_any s (k2 + 1) _ hs hp).mono ?_
                    rintro e w' ⟨rfl, hww⟩
                    obtain rfl : we = w' := hww.symm
                    go_wp2
                    obtain ⟨q0, q1, q2, q3, q4, qb⟩ := HN.out.put false ⟨#[]⟩ ⟨#[]⟩ false ⟨#[]⟩ _ rfl
                    exact bodyPost_ret (v := .tuple #[.agg #[.bool false, .string ⟨#[]⟩, .string ⟨#[]⟩, .bool false, .string ⟨#[]⟩], .bool false]) (by simp [results, Try.results13, go_sem, q0, q1, q2, q3, q4]) rfl ⟨refused HS.out, qb⟩
                  · have HS := hid_of (frac_yes hp hz hd hsp.out)
                    have hdd : (((skip s (k2 + 1) : Nat) : Int) == (k2 : Int) + 1) = false := by simp; omega
                    have HX := hid_of (HN.out.set2 (s.extract (k2 + 1) (skip s (k2 + 1))))
                    clear hsp hd
                    go_wp2_with fail
                    refine (skip_any s (k2 + 1) _ hs hp).mono ?_
                    rintro e w' ⟨rfl, hww⟩
                    obtain rfl : we = w' := hww.symm
                    go_wp2
                    go_meet
                    case rel => exact ⟨skip s (k2 + 1), _, rfl, e2, HX.out, HS.out⟩
                · have HS := hid_of (frac_none hp hz hsp.out)
                  have hz' : ((s[k2].toNat : Int) == 46) = false := by simpa using hz
                  clear hsp
                  go_wp2
                  go_meet
                  case rel => exact ⟨k2, _, rfl, hk2, HN.out, HS.out⟩
              · have HS := hid_of (frac_end hp hsp.out)
                have hp' : s.size ≤ k2 := by omega
                clear hsp hp
                go_wp2
                go_meet
                case rel => exact ⟨k2, _, rfl, hk2, HN.out, HS.out⟩
            case rest =>
              clear HN r0 r1 r2 r3 r4 hg h2 hf hsp
              obtain ⟨k3, fr, rfl, hk3, hn, hsp⟩ := hcut
              obtain ⟨wf, hwf⟩ : ∃ wf, wf = wc := ⟨_, rfl⟩
              subst hwf
              have HN := hid_of hn
              clear hn
              go_step
              go_step
              refine exp_part s w hs neg k it fr k3 hk3 hsp wf HN _ _ _ _ _ _ _ _ _ _ _ _ _ _ _ _ _ _ _ _ _ _ _ _ _ _ _ _ _ _ _ _ _ _ _ _ _ _ _ _ _ _ _ _ _ _ _ _ _ _ _ _ _ _ _ _ _ _ _ _ _ _ _ _ _ _ _ _ _ _ _ _ _ _ _ _ _ _ _ _ _ _ _ _ _ _ _ _ _ _ _ _ _ _ _ _ _ _ _ _ _ _ _ _ _ _ _ _ _ _ _ _ _ _ _ _ _ _ _ _ _ _ _ _ _ _ _ _ _ _ _ _ _ _ _ _ _ _ ?_
              intro v5 v8 v9 v10 v11 v12 v13 v14 v15 v16 v17 v18 v19 v20 v21 v22 v23 v24 v25 v26 v27 v28 v29 v30 v31 v32 v33 v34 v35 v36 v37 v38 v39 v40 v41 v42 v43 v44 v45 v46 v47 v48 v49 v50 v51 v52 v53 v54 v55 v56 v57 v58 v59 v60 v61 v62 v63 v64 v65 v66 v67 v68 v69 v70 v71 v72 v73 v74 v75 v76 v77 v78 v79 v80 v81 v82 v83 v84 v85 v86 v87 v88 v89 v90 v91 v92 v93 v94 v95 v96 v97 v98 v99 v100 v101 v102 v103 v104 v105 v106 v107 v108 v109 v110 v111 v112 v113 v114 v115 v116 v117 v118 v119 v120 v121 v122 v123 v124 v125 v126 v127 v128 v129 v130 v131 v132 v133 v134 v135 v136 v137 v138 v139 v140 v141 v142 v143 wc hcut
              clear HN hsp
              obtain ⟨k4, ne, ex, rfl, hk4, hn, hsp⟩ := hcut
              obtain ⟨wg, hwg⟩ : ∃ wg, wg = wc := ⟨_, rfl⟩
              subst hwg
              have HN := hid_of hn
              have r0 := hn.r0
              have r1 := hn.r1
              have r2 := hn.r2
              have r3 := hn.r3
              have r4 := hn.r4
              have hg := hn.g
              have h0 := hn.c0
              have h1 := hn.c1
              have h2 := hn.c2
              have h3 := hn.c3
              have h4 := hn.c4
              clear hn
              by_cases he : k4 = s.size
              · have HS : Hid (spec s = some ⟨neg, it, fr, ne, ex⟩) := hsp.out.trans (if_pos he)
                have hb : ((k4 : Int) != (s.size : Int)) = false := by simp [he]
                clear hsp he
                go_wp2
                obtain ⟨q0, q1, q2, q3, q4, qb⟩ := HN.out.put neg it fr ne ex _ rfl
                exact bodyPost_ret (v := .tuple #[.agg #[.bool neg, .string it, .string fr, .bool ne, .string ex], .bool true]) (by simp [results, Try.results13, go_sem, q0, q1, q2, q3, q4]) rfl ⟨taken HS.out, qb⟩
              · have HS : Hid (spec s = none) := hsp.out.trans (if_neg he)
                have hb : ((k4 : Int) != (s.size : Int)) = true := by simp; omega
                clear hsp he
                go_wp2
                obtain ⟨q0, q1, q2, q3, q4, qb⟩ := HN.out.put false ⟨#[]⟩ ⟨#[]⟩ false ⟨#[]⟩ _ rfl
                exact bodyPost_ret (v := .tuple #[.agg #[.bool false, .string ⟨#[]⟩, .string ⟨#[]⟩, .bool false, .string ⟨#[]⟩], .bool false]) (by simp [results, Try.results13, go_sem, q0, q1, q2, q3, q4]) rfl ⟨refused HS.out, qb⟩
end Go.Proofs.Qxb6602829a.Split
