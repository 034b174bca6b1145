/-
  The lexer's number: the walk.
-/
import Derived.Test.Qxb6003361aLex
import Derived.Deep.Cut
namespace Go.Proofs.Qxb6003361a.Num
open Go.RowKit

/-- Digits from p on, one or more, up to q. -/
def DigTo (zs : List Int) (p q : Nat) : Prop := 0 < dlen (zs.drop p) ∧ q = p + dlen (zs.drop p)
def sgn (zs : List Int) (p : Nat) : Nat := if isB zs p 43 || isB zs p 45 then p + 1 else p
def S1 (zs : List Int) (p q : Nat) : Prop := q = if isB zs p 45 then p + 1 else p
def S2 (zs : List Int) (p q : Nat) : Prop := if isB zs p 48 then q = p + 1 else DigTo zs p q
def S3 (zs : List Int) (p q : Nat) : Prop := if isB zs p 46 then DigTo zs (p + 1) q else q = p
def S4 (zs : List Int) (p q : Nat) : Prop := if isB zs p 101 || isB zs p 69 then DigTo zs (sgn zs (p + 1)) q else q = p

theorem isB_lt {zs : List Int} {p : Nat} {c : Int} (h : isB zs p c = true) : p < zs.length := by
  simp only [isB, Bool.and_eq_true, decide_eq_true_eq] at h
  exact h.1

theorem next_below {w wx : World} {B : Nat} (h : Below B w wx) (n : Nat) (v : Value) : Below B w ((wx.drewN n).setCell ⟨B, 1, none⟩ v) := (below_draws h n).setCell (Nat.le_refl _) _

theorem hid_of {p : Prop} (h : p) : Hid p := h

set_option maxHeartbeats 3200000 in
theorem number_any {w : World} {B g len cap : Nat} {zs : List Int} {p p1 p2 p3 p4 : Nat} {due : Int} (h : LexAt w B g len cap zs p due)
    (q1 : S1 zs p p1) (q2 : S2 zs p1 p2) (q3 : S3 zs p2 p3) (q4 : S4 zs p3 p4) :
    Calls Try.prog 44 #[.pointer (some ⟨B, 0, none⟩)] w fun e w' => e = .returned (.tuple #[]) ∧ LexAt w' B g len cap zs p4 due ∧ Below B w w' := by
  have Q1 : Hid (S1 zs p p1) := q1
  have Q2 : Hid (S2 zs p1 p2) := q2
  have Q3 : Hid (S3 zs p2 p3) := q3
  have Q4 : Hid (S4 zs p3 p4) := q4
  have hlong := h.long
  have HLen : Hid (zs.length = len) := hlong
  clear q1 q2 q3 q4 hlong
  go_enter Try.func44, Try.ntmps44
  go_upto_if 3 with (go_at_call 52; refine (byteIs_any h _).mono ?_; rintro e w1 ⟨rfl, n, rfl⟩)
  go_cut [] from 2 (fun wc => LexAt wc B g len cap zs p1 due ∧ Below B w wc)
  case first =>
    have h1 := h.here
    have hf := h.free1
    have hsm := h.small
    have hle := h.le
    cases hb : isB zs p 45 with
    | true =>
      have hlt : p < len := by have := isB_lt hb; have := HLen.out; omega
      have HX : Hid (∀ n, LexAt ((w.drewN n).setCell ⟨B, 1, none⟩ (.int .i64 ((p : Int) + 1))) B g len cap zs (p + 1) due) := fun n => (h.draws n).next hlt
      have E : Hid (p1 = p + 1) := by have := Q1.out; simp only [S1, hb] at this; exact this
      clear h
      go_wp2
      go_meet
      case rel => rw [E.out]; exact ⟨HX.out _, next_below (Below.refl _ _) _ _⟩
    | false =>
      have E : Hid (p1 = p) := by have := Q1.out; simp only [S1, hb] at this; exact this
      have HX : Hid (LexAt w B g len cap zs p due) := h
      clear h
      go_wp2
      go_meet
      case rel => rw [E.out]; exact ⟨HX.out.draws _, below_draws (Below.refl _ _) _⟩
  case rest =>
    clear h
    obtain ⟨h, hbl⟩ := hcut
    obtain ⟨wx, hwx⟩ : ∃ wx, wx = wc := ⟨_, rfl⟩
    subst hwx
    go_upto_if 12 with (go_at_call 52; refine (byteIs_any h _).mono ?_; rintro e w1 ⟨rfl, n, rfl⟩)
    go_cut [] from 2 (fun wc => LexAt wc B g len cap zs p2 due ∧ Below B w wc)
    case first =>
      have h1 := h.here
      have hf := h.free1
      have hsm := h.small
      have hle := h.le
      cases hb : isB zs p1 48 with
      | true =>
        have hlt : p1 < len := by have := isB_lt hb; have := HLen.out; omega
        have HX : Hid (∀ n, LexAt ((wx.drewN n).setCell ⟨B, 1, none⟩ (.int .i64 ((p1 : Int) + 1))) B g len cap zs (p1 + 1) due) := fun n => (h.draws n).next hlt
        have E : Hid (p2 = p1 + 1) := by have := Q2.out; simp only [S2, hb] at this; exact this
        clear h
        go_wp2
        go_meet
        case rel => rw [E.out]; exact ⟨HX.out _, next_below hbl _ _⟩
      | false =>
        have hd : DigTo zs p1 p2 := by have := Q2.out; simp only [S2, hb] at this; exact this
        go_wp2_with fail
        refine (digits_any (h.draws n) hd.1).mono ?_
        rintro e w2 ⟨rfl, hx, hb2⟩
        have HX : Hid (LexAt w2 B g len cap zs p2 due) := by rw [hd.2]; exact hx
        have HB : Hid (Below B w w2) := (below_draws hbl n).trans hb2
        clear hx hb2 hd h
        go_wp2
        go_meet
        case rel => exact ⟨HX.out, HB.out⟩
    case rest =>
      clear h hbl
      obtain ⟨h, hbl⟩ := hcut
      obtain ⟨wy, hwy⟩ : ∃ wy, wy = wc := ⟨_, rfl⟩
      subst hwy
      go_upto_if 23 with (go_at_call 52; refine (byteIs_any h _).mono ?_; rintro e w1 ⟨rfl, n, rfl⟩)
      go_cut [] from 2 (fun wc => LexAt wc B g len cap zs p3 due ∧ Below B w wc)
      case first =>
        have h1 := h.here
        have hf := h.free1
        have hsm := h.small
        have hle := h.le
        cases hb : isB zs p2 46 with
        | true =>
          have hlt : p2 < len := by have := isB_lt hb; have := HLen.out; omega
          have hd : DigTo zs (p2 + 1) p3 := by have := Q3.out; simp only [S3, hb] at this; exact this
          have hn := (h.draws n).next hlt
          clear h
          go_wp2_with fail
          refine (digits_any hn hd.1).mono ?_
          rintro e w2 ⟨rfl, hx, hb2⟩
          have HX : Hid (LexAt w2 B g len cap zs p3 due) := by rw [hd.2]; exact hx
          have HB : Hid (Below B w w2) := (next_below hbl n _).trans hb2
          clear hx hb2 hd hn
          go_wp2
          go_meet
          case rel => exact ⟨HX.out, HB.out⟩
        | false =>
          have E : Hid (p3 = p2) := by have := Q3.out; simp only [S3, hb] at this; exact this
          have HX : Hid (LexAt wy B g len cap zs p2 due) := h
          clear h
          go_wp2
          go_meet
          case rel => rw [E.out]; exact ⟨HX.out.draws _, below_draws hbl _⟩
      case rest =>
        clear h hbl
        obtain ⟨h, hbl⟩ := hcut
        obtain ⟨wz, hwz⟩ : ∃ wz, wz = wc := ⟨_, rfl⟩
        subst hwz
        have h1 := h.here
        have hf := h.free1
        have hsm := h.small
        have hle := h.le
        go_wp2_with fail
        refine (byteIs_any h 101).mono ?_
        rintro e w1 ⟨rfl, n, rfl⟩
        cases he : isB zs p3 101 with
        | true =>
          have QE : Hid (DigTo zs (sgn zs (p3 + 1)) p4) := by have := Q4.out; simp only [S4, he, Bool.true_or] at this; exact this
          have hlt : p3 < len := by have := isB_lt he; have := HLen.out; omega
          have hn := (h.draws n).next hlt
          have hbn := next_below hbl n (.int .i64 ((p3 : Int) + 1))
          go_wp2_with fail
          refine (byteIs_any hn 43).mono ?_
          rintro e w1 ⟨rfl, m, rfl⟩
          have h1 := hn.here
          have hf := hn.free1
          have hsm := hn.small
          have hle := hn.le
          cases hs : isB zs (p3 + 1) 43 with
          | true =>
            have hlt2 : p3 + 1 < len := by have := isB_lt hs; have := HLen.out; omega
            have hd : DigTo zs (p3 + 1 + 1) p4 := by have := QE.out; simp only [sgn, hs, Bool.true_or] at this; exact this
            have HN := hid_of ((hn.draws m).next hlt2)
            have HB := hid_of (next_below hbn m (.int .i64 (((p3 + 1 : Nat) : Int) + 1)))
            clear hn hbn
            go_wp2_with fail
            refine (digits_any HN.out hd.1).mono ?_
            rintro e w2 ⟨rfl, hx, hb2⟩
            have HX : Hid (LexAt w2 B g len cap zs p4 due) := by rw [hd.2]; exact hx
            have HB2 : Hid (Below B w w2) := HB.out.trans hb2
            clear hx hb2
            go_wp2
            go_end0
            exact ⟨rfl, HX.out, HB2.out⟩
          | false =>
            go_wp2_with fail
            refine (byteIs_any (hn.draws m) 45).mono ?_
            rintro e w1 ⟨rfl, m', rfl⟩
            cases hs2 : isB zs (p3 + 1) 45 with
            | true =>
              have hlt2 : p3 + 1 < len := by have := isB_lt hs2; have := HLen.out; omega
              have hd : DigTo zs (p3 + 1 + 1) p4 := by have := QE.out; simp only [sgn, hs, hs2, Bool.or_true] at this; exact this
              have HN := hid_of ((hn.draws (m + m')).next hlt2)
              have HB := hid_of (next_below hbn (m + m') (.int .i64 (((p3 + 1 : Nat) : Int) + 1)))
              clear hn hbn
              go_wp2_with fail
              refine (digits_any HN.out hd.1).mono ?_
              rintro e w2 ⟨rfl, hx, hb2⟩
              have HX : Hid (LexAt w2 B g len cap zs p4 due) := by rw [hd.2]; exact hx
              have HB2 : Hid (Below B w w2) := HB.out.trans hb2
              clear hx hb2
              go_wp2
              go_end0
              exact ⟨rfl, HX.out, HB2.out⟩
            | false =>
              have hd : DigTo zs (p3 + 1) p4 := by have := QE.out; simp only [sgn, hs, hs2, Bool.or_false] at this; exact this
              have HN := hid_of (hn.draws (m + m'))
              have HB := hid_of (below_draws hbn (m + m'))
              clear hn hbn
              go_wp2_with fail
              refine (digits_any HN.out hd.1).mono ?_
              rintro e w2 ⟨rfl, hx, hb2⟩
              have HX : Hid (LexAt w2 B g len cap zs p4 due) := by rw [hd.2]; exact hx
              have HB2 : Hid (Below B w w2) := HB.out.trans hb2
              clear hx hb2
              go_wp2
              go_end0
              exact ⟨rfl, HX.out, HB2.out⟩
        | false =>
          go_wp2_with fail
          refine (byteIs_any (h.draws n) 69).mono ?_
          rintro e w1 ⟨rfl, n', rfl⟩
          cases he2 : isB zs p3 69 with
          | true =>
            have QE : Hid (DigTo zs (sgn zs (p3 + 1)) p4) := by have := Q4.out; simp only [S4, he, he2, Bool.or_true] at this; exact this
            have hlt : p3 < len := by have := isB_lt he2; have := HLen.out; omega
            have hn := (h.draws (n + n')).next hlt
            have hbn := next_below hbl (n + n') (.int .i64 ((p3 : Int) + 1))
            go_wp2_with fail
            refine (byteIs_any hn 43).mono ?_
            rintro e w1 ⟨rfl, m, rfl⟩
            have h1 := hn.here
            have hf := hn.free1
            have hsm := hn.small
            have hle := hn.le
            cases hs : isB zs (p3 + 1) 43 with
            | true =>
              have hlt2 : p3 + 1 < len := by have := isB_lt hs; have := HLen.out; omega
              have hd : DigTo zs (p3 + 1 + 1) p4 := by have := QE.out; simp only [sgn, hs, Bool.true_or] at this; exact this
              have HN := hid_of ((hn.draws m).next hlt2)
              have HB := hid_of (next_below hbn m (.int .i64 (((p3 + 1 : Nat) : Int) + 1)))
              clear hn hbn
              go_wp2_with fail
              refine (digits_any HN.out hd.1).mono ?_
              rintro e w2 ⟨rfl, hx, hb2⟩
              have HX : Hid (LexAt w2 B g len cap zs p4 due) := by rw [hd.2]; exact hx
              have HB2 : Hid (Below B w w2) := HB.out.trans hb2
              clear hx hb2
              go_wp2
              go_end0
              exact ⟨rfl, HX.out, HB2.out⟩
            | false =>
              go_wp2_with fail
              refine (byteIs_any (hn.draws m) 45).mono ?_
              rintro e w1 ⟨rfl, m', rfl⟩
              cases hs2 : isB zs (p3 + 1) 45 with
              | true =>
                have hlt2 : p3 + 1 < len := by have := isB_lt hs2; have := HLen.out; omega
                have hd : DigTo zs (p3 + 1 + 1) p4 := by have := QE.out; simp only [sgn, hs, hs2, Bool.or_true] at this; exact this
                have HN := hid_of ((hn.draws (m + m')).next hlt2)
                have HB := hid_of (next_below hbn (m + m') (.int .i64 (((p3 + 1 : Nat) : Int) + 1)))
                clear hn hbn
                go_wp2_with fail
                refine (digits_any HN.out hd.1).mono ?_
                rintro e w2 ⟨rfl, hx, hb2⟩
                have HX : Hid (LexAt w2 B g len cap zs p4 due) := by rw [hd.2]; exact hx
                have HB2 : Hid (Below B w w2) := HB.out.trans hb2
                clear hx hb2
                go_wp2
                go_end0
                exact ⟨rfl, HX.out, HB2.out⟩
              | false =>
                have hd : DigTo zs (p3 + 1) p4 := by have := QE.out; simp only [sgn, hs, hs2, Bool.or_false] at this; exact this
                have HN := hid_of (hn.draws (m + m'))
                have HB := hid_of (below_draws hbn (m + m'))
                clear hn hbn
                go_wp2_with fail
                refine (digits_any HN.out hd.1).mono ?_
                rintro e w2 ⟨rfl, hx, hb2⟩
                have HX : Hid (LexAt w2 B g len cap zs p4 due) := by rw [hd.2]; exact hx
                have HB2 : Hid (Below B w w2) := HB.out.trans hb2
                clear hx hb2
                go_wp2
                go_end0
                exact ⟨rfl, HX.out, HB2.out⟩
          | false =>
            have E : Hid (p4 = p3) := by have := Q4.out; simp only [S4, he, he2, Bool.or_false] at this; exact this
            go_wp2
            go_end0
            exact ⟨rfl, by rw [E.out]; exact h.draws (n + n'), below_draws hbl (n + n')⟩
end Go.Proofs.Qxb6003361a.Num
