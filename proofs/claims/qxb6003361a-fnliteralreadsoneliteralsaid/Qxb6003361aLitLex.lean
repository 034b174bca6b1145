/-
  The lexer's word, valueRead, literal; kind: the walks.
-/
import Derived.Test.Qxb6003361aLexNum
namespace Go.Proofs.Qxb6003361a.Num
open Go.RowKit

theorem LexAt.owe {w : World} {B g len cap : Nat} {zs : List Int} {p : Nat} {due : Int} (h : LexAt w B g len cap zs p due) (d : Int) : LexAt (w.setCell ⟨B, 2, none⟩ (.int .u8 d)) B g len cap zs p d where
  text := cell_store h.text (.inr (by decide))
  here := cell_store h.here (.inr (by decide))
  owed := World.cell?_setCell_same _ _ _ h.owed
  stack := cell_store h.stack (.inr (by decide))
  free1 := (World.frozen?_setCell _ _ _ _).trans h.free1
  free2 := (World.frozen?_setCell _ _ _ _).trans h.free2
  size := by simpa [World.setCell] using h.size
  lt := h.lt
  long := h.long
  row := fun i hi => cell_store (h.row i hi) (.inl (by have := h.lt; omega))
  le := h.le
  small := h.small

theorem valueRead_any {w : World} {B g len cap : Nat} {zs : List Int} {p : Nat} {due : Int} (h : LexAt w B g len cap zs p due) :
    Calls Try.prog 55 #[.pointer (some ⟨B, 0, none⟩)] w fun e w' => e = .returned (.tuple #[]) ∧ LexAt w' B g len cap zs p 6 ∧ Below B w w' := by
  have h3 := h.stack
  have h2 := h.owed
  have hf := h.free2
  have HX : Hid (LexAt (w.setCell ⟨B, 2, none⟩ (.int .u8 6)) B g len cap zs p 6) := h.owe 6
  clear h
  go_enter Try.func55, Try.ntmps55
  go_wp2
  go_end0
  exact ⟨rfl, HX.out, (Below.refl B w).setCell (p := ⟨B, 2, none⟩) (Nat.le_refl _) _⟩

set_option maxHeartbeats 800000 in
theorem word_any {w : World} {B g len cap : Nat} {zs : List Int} {p : Nat} {due : Int} (h : LexAt w B g len cap zs p due) (s : ByteArray) (hs : s.size ≤ 8) (hw : ∀ i (hi : i < s.size), isB zs (p + i) (s[i].toNat : Int) = true) :
    Calls Try.prog 54 #[.pointer (some ⟨B, 0, none⟩), .string s] w fun e w' => e = .returned (.tuple #[]) ∧ LexAt w' B g len cap zs (p + s.size) due ∧ Below B w w' := by
  have HW : Hid (∀ i (hi : i < s.size), isB zs (p + i) (s[i].toNat : Int) = true) := hw
  have HX : Hid (LexAt w B g len cap zs p due) := h
  have HLen : Hid (zs.length = len) := h.long
  clear h hw
  go_enter Try.func54, Try.ntmps54
  go_wp2
  go_loopw [7] (fun i wr => ∃ k : Nat, k ≤ s.size ∧ i = .int .i64 k ∧ Hid (LexAt wr B g len cap zs (p + k) due) ∧ Below B w wr) (fun i _ => s.size - (intOf i).toNat)
  case atStart => exact ⟨0, Nat.zero_le _, rfl, HX.out, Below.refl _ _⟩
  case round =>
    clear HX
    obtain ⟨k, hk, rfl, hx, hbl⟩ := hrel
    by_cases hlt : k < s.size
    · have hb := HW.out k hlt
      have hlt2 : p + k < len := by have := isB_lt hb; have := HLen.out; omega
      have h1 := hx.out.here
      have hf := hx.out.free1
      have hsm := hx.out.small
      have HN : Hid (∀ n, LexAt ((wr.drewN n).setCell ⟨B, 1, none⟩ (.int .i64 ((p : Int) + (k : Int) + 1))) B g len cap zs (p + (k + 1)) due) := fun n => by
        have := (hx.out.draws n).next hlt2
        rwa [show ((p + k : Nat) : Int) = (p : Int) + (k : Int) by omega] at this
      go_wp2_with (go_at_call 52; refine (byteIs_any hx.out _).mono ?_; rintro e w' ⟨rfl, n, rfl⟩)
      go_roundw
      case rel => exact ⟨k + 1, by omega, by go_num, HN.out _, next_below hbl _ _⟩
      case measure => simp [intOf]; omega
    · have HE : Hid (k = s.size) := show _ = _ by omega
      go_wp2
      go_end0
      exact ⟨rfl, by rw [← HE.out]; exact hx.out, hbl⟩

/-- What the text holds at p, with the first byte c, and where it ends. -/
def LitAt (zs : List Int) (p : Nat) (c : Int) (q : Nat) : Prop :=
  (c = 116 ∧ isB zs p 116 = true ∧ isB zs (p + 1) 114 = true ∧ isB zs (p + 2) 117 = true ∧ isB zs (p + 3) 101 = true ∧ q = p + 4) ∨
  (c = 102 ∧ isB zs p 102 = true ∧ isB zs (p + 1) 97 = true ∧ isB zs (p + 2) 108 = true ∧ isB zs (p + 3) 115 = true ∧ isB zs (p + 4) 101 = true ∧ q = p + 5) ∨
  (c = 110 ∧ isB zs p 110 = true ∧ isB zs (p + 1) 117 = true ∧ isB zs (p + 2) 108 = true ∧ isB zs (p + 3) 108 = true ∧ q = p + 4) ∨
  (c ≠ 116 ∧ c ≠ 102 ∧ c ≠ 110 ∧ ∃ p1 p2 p3, S1 zs p p1 ∧ S2 zs p1 p2 ∧ S3 zs p2 p3 ∧ S4 zs p3 q)

set_option maxHeartbeats 1600000 in
theorem literal_any {w : World} {B g len cap : Nat} {zs : List Int} {p q : Nat} {due c : Int} (h : LexAt w B g len cap zs p due) (hl : LitAt zs p c q) :
    Calls Try.prog 45 #[.pointer (some ⟨B, 0, none⟩), .int .u8 c] w fun e w' => e = .returned (.tuple #[]) ∧ LexAt w' B g len cap zs q 6 ∧ Below B w w' := by
  rcases hl with ⟨rfl, b0, b1, b2, b3, rfl⟩ | ⟨rfl, b0, b1, b2, b3, b4, rfl⟩ | ⟨rfl, b0, b1, b2, b3, rfl⟩ | ⟨n1, n2, n3, p1, p2, p3, q1, q2, q3, q4⟩
  · have hw := word_any h ⟨#[116, 114, 117, 101]⟩ (by decide) (by
      intro i hi
      match i, hi with
      | 0, _ => exact b0
      | 1, _ => exact b1
      | 2, _ => exact b2
      | 3, _ => exact b3)
    clear h b0 b1 b2 b3
    go_enter Try.func45, Try.ntmps45
    go_wp2_with fail
    refine hw.mono ?_
    rintro e w1 ⟨rfl, hx, hb⟩
    clear hw
    have hv := valueRead_any hx
    go_wp2_with fail
    refine hv.mono ?_
    rintro e w2 ⟨rfl, hy, hb2⟩
    have HB : Hid (Below B w w2) := hb.trans hb2
    have HY : Hid (LexAt w2 B g len cap zs (p + 4) 6) := hy
    clear hx hy hv hb hb2
    go_wp2
    go_end0
    exact ⟨rfl, HY.out, HB.out⟩
  · have hw := word_any h ⟨#[102, 97, 108, 115, 101]⟩ (by decide) (by
      intro i hi
      match i, hi with
      | 0, _ => exact b0
      | 1, _ => exact b1
      | 2, _ => exact b2
      | 3, _ => exact b3
      | 4, _ => exact b4)
    clear h b0 b1 b2 b3 b4
    go_enter Try.func45, Try.ntmps45
    go_wp2_with fail
    refine hw.mono ?_
    rintro e w1 ⟨rfl, hx, hb⟩
    clear hw
    have hv := valueRead_any hx
    go_wp2_with fail
    refine hv.mono ?_
    rintro e w2 ⟨rfl, hy, hb2⟩
    have HB : Hid (Below B w w2) := hb.trans hb2
    have HY : Hid (LexAt w2 B g len cap zs (p + 5) 6) := hy
    clear hx hy hv hb hb2
    go_wp2
    go_end0
    exact ⟨rfl, HY.out, HB.out⟩
  · have hw := word_any h ⟨#[110, 117, 108, 108]⟩ (by decide) (by
      intro i hi
      match i, hi with
      | 0, _ => exact b0
      | 1, _ => exact b1
      | 2, _ => exact b2
      | 3, _ => exact b3)
    clear h b0 b1 b2 b3
    go_enter Try.func45, Try.ntmps45
    go_wp2_with fail
    refine hw.mono ?_
    rintro e w1 ⟨rfl, hx, hb⟩
    clear hw
    have hv := valueRead_any hx
    go_wp2_with fail
    refine hv.mono ?_
    rintro e w2 ⟨rfl, hy, hb2⟩
    have HB : Hid (Below B w w2) := hb.trans hb2
    have HY : Hid (LexAt w2 B g len cap zs (p + 4) 6) := hy
    clear hx hy hv hb hb2
    go_wp2
    go_end0
    exact ⟨rfl, HY.out, HB.out⟩
  · have m1 : (c == 116) = false := by simpa using n1
    have m2 : (c == 102) = false := by simpa using n2
    have m3 : (c == 110) = false := by simpa using n3
    have hw := number_any h q1 q2 q3 q4
    clear h q1 q2 q3 q4 n1 n2 n3
    go_enter Try.func45, Try.ntmps45
    go_wp2_with fail
    refine hw.mono ?_
    rintro e w1 ⟨rfl, hx, hb⟩
    clear hw
    have hv := valueRead_any hx
    go_wp2_with fail
    refine hv.mono ?_
    rintro e w2 ⟨rfl, hy, hb2⟩
    have HB : Hid (Below B w w2) := hb.trans hb2
    have HY : Hid (LexAt w2 B g len cap zs q 6) := hy
    clear hx hy hv hb hb2
    go_wp2
    go_end0
    exact ⟨rfl, HY.out, HB.out⟩

theorem zzliteral_any {w : World} {B g len cap : Nat} {zs : List Int} {p q : Nat} {due c : Int} (h : LexAt w B g len cap zs p due) (hl : LitAt zs p c q) :
    Calls Try.prog 20 #[.pointer (some ⟨B, 0, none⟩), .int .u8 c] w fun e w' => e = .returned (.tuple #[]) ∧ LexAt w' B g len cap zs q 6 ∧ Below B w w' := by
  have hw := literal_any h hl
  clear h hl
  go_enter Try.func20, Try.ntmps20
  go_wp2_with fail
  refine hw.mono ?_
  rintro e w1 ⟨rfl, hx, hb⟩
  have HY : Hid (LexAt w1 B g len cap zs q 6) := hx
  clear hw hx
  go_wp2
  go_end0
  exact ⟨rfl, HY.out, hb⟩

/-- What kind gives, of the first bytes that a literal can have. -/
def kindB (c : Int) : ByteArray := if c = 110 then ⟨#[110, 117, 108, 108]⟩ else if c = 116 ∨ c = 102 then ⟨#[98, 111, 111, 108]⟩ else ⟨#[110, 117, 109, 98, 101, 114]⟩

theorem kind_any (c : Int) (w : World) (hc : c = 116 ∨ c = 102 ∨ c = 110 ∨ c = 45 ∨ (48 ≤ c ∧ c ≤ 57)) :
    Calls Try.prog 23 #[.int .u8 c] w fun e w' => e = .returned (.string (kindB c)) ∧ w' = w := by
  rcases hc with rfl | rfl | rfl | rfl | ⟨h0, h1⟩
  · go_enter Try.func23, Try.ntmps23
    go_wp2
    go_ret
    exact ⟨rfl, rfl⟩
  · go_enter Try.func23, Try.ntmps23
    go_wp2
    go_ret
    exact ⟨rfl, rfl⟩
  · go_enter Try.func23, Try.ntmps23
    go_wp2
    go_ret
    exact ⟨rfl, rfl⟩
  · go_enter Try.func23, Try.ntmps23
    go_wp2
    go_ret
    exact ⟨rfl, rfl⟩
  · have hk : kindB c = ⟨#[110, 117, 109, 98, 101, 114]⟩ := by unfold kindB; rw [if_neg (by omega), if_neg (by omega)]
    rw [hk]
    clear hk
    go_enter Try.func23, Try.ntmps23
    go_wp2
    go_ret
    exact ⟨rfl, rfl⟩
end Go.Proofs.Qxb6003361a.Num
