/-
  The lexer in memory; byteIs and digits: the walks.
-/
import Derived.Test.Qxb6003361aMem
import Derived.Test.Qxb6003361aNumPlain
import Derived.Deep.QuietTactic
import Derived.BigQuiet
import Derived.Deep.Light
import Derived.Deep.LoopGhost
namespace Go.Proofs.Qxb6003361a.Num
open Go.RowKit

/-- A lexer at block B over the text zs, which lies at block g; it stands at p. -/
structure LexAt (w : World) (B g len cap : Nat) (zs : List Int) (p : Nat) (due : Int) : Prop where
  text : w.cell? ⟨B, 0, none⟩ = some (.slice (some ⟨g, 0, none⟩) len cap)
  here : w.cell? ⟨B, 1, none⟩ = some (.int .i64 p)
  owed : w.cell? ⟨B, 2, none⟩ = some (.int .u8 due)
  stack : w.cell? ⟨B, 3, none⟩ = some (.slice none 0 0)
  free1 : w.frozen? ⟨B, 1, none⟩ = false
  free2 : w.frozen? ⟨B, 2, none⟩ = false
  size : B < w.heap.size
  lt : g < B
  long : zs.length = len
  row : ∀ i, i < len → w.cell? ⟨g, i, none⟩ = some (.int .u8 (zs.getD i 0))
  le : p ≤ len
  small : len ≤ 1048577

theorem LexAt.draws {w : World} {B g len cap : Nat} {zs : List Int} {p : Nat} {due : Int} (h : LexAt w B g len cap zs p due) (n : Nat) : LexAt (w.drewN n) B g len cap zs p due :=
  ⟨h.text, h.here, h.owed, h.stack, h.free1, h.free2, h.size, h.lt, h.long, h.row, h.le, h.small⟩

theorem cell_store {w : World} {b o b' o' : Nat} {v u : Value} (h : w.cell? ⟨b', o', none⟩ = some u) (hne : b' ≠ b ∨ o' ≠ o) : (w.setCell ⟨b, o, none⟩ v).cell? ⟨b', o', none⟩ = some u := by
  rw [World.cell?_setCell_other _ _ _ _ (by simp only [ne_eq, Addr.mk.injEq, and_true, not_and]; intro e; rcases hne with hne | hne; exact absurd e.symm hne; exact hne.symm)]
  exact h

theorem LexAt.move {w : World} {B g len cap : Nat} {zs : List Int} {p : Nat} {due : Int} (h : LexAt w B g len cap zs p due) (q : Nat) (hq : q ≤ len) : LexAt (w.setCell ⟨B, 1, none⟩ (.int .i64 q)) B g len cap zs q due where
  text := cell_store h.text (.inr (by decide))
  here := World.cell?_setCell_same _ _ _ h.here
  owed := cell_store h.owed (.inr (by decide))
  stack := cell_store h.stack (.inr (by decide))
  free1 := (World.frozen?_setCell _ _ _ _).trans h.free1
  free2 := (World.frozen?_setCell _ _ _ _).trans h.free2
  size := by simpa [World.setCell] using h.size
  lt := h.lt
  long := h.long
  row := fun i hi => cell_store (h.row i hi) (.inl (by have := h.lt; omega))
  le := hq
  small := h.small

theorem LexAt.next {w : World} {B g len cap : Nat} {zs : List Int} {p : Nat} {due : Int} (h : LexAt w B g len cap zs p due) (hq : p < len) : LexAt (w.setCell ⟨B, 1, none⟩ (.int .i64 ((p : Int) + 1))) B g len cap zs (p + 1) due := by
  have := h.move (p + 1) hq
  rwa [show ((p + 1 : Nat) : Int) = (p : Int) + 1 by omega] at this

/-- The byte at p is c. -/
def isB (zs : List Int) (p : Nat) (c : Int) : Bool := decide (p < zs.length) && (zs.getD p 0 == c)

theorem isB_out {zs : List Int} {p len : Nat} (c : Int) (hl : zs.length = len) (h : ¬ p < len) : isB zs p c = false := by
  have : ¬ p < zs.length := by omega
  simp [isB, this]
theorem isB_in {zs : List Int} {p len : Nat} (c : Int) (hl : zs.length = len) (h : p < len) : isB zs p c = (zs.getD p 0 == c) := by
  have : p < zs.length := by omega
  simp [isB, this]

theorem ret_bool {a b : Bool} (h : a = b) : Ending.returned (.bool a) = .returned (.bool b) := by rw [h]

set_option maxHeartbeats 800000 in
theorem byteIs_any {w : World} {B g len cap : Nat} {zs : List Int} {p : Nat} {due : Int} (h : LexAt w B g len cap zs p due) (c : Int) :
    Calls Try.prog 52 #[.pointer (some ⟨B, 0, none⟩), .int .u8 c] w fun e w' => e = .returned (.bool (isB zs p c)) ∧ ∃ n, w' = w.drewN n := by
  have h0 := h.text
  have h1 := h.here
  have hle := h.le
  have hsm := h.small
  by_cases hlt : p < len
  · have hr := h.row p hlt
    have HI := isB_in c h.long hlt
    obtain ⟨z, hz⟩ : ∃ z, zs.getD p 0 = z := ⟨_, rfl⟩
    rw [hz] at hr HI
    have HI' : Hid (isB zs p c = (z == c)) := HI
    have hlt' : (p : Int) < (len : Int) := by omega
    clear h hz HI
    go_enter Try.func52, Try.ntmps52
    go_wp2
    go_quiet (fail)
    go_wp2
    go_ret
    exact ⟨ret_bool HI'.out.symm, _, rfl⟩
  · have HI : Hid (isB zs p c = false) := isB_out c h.long hlt
    have hlt' : decide ((p : Int) < (len : Int)) = false := by simp; omega
    clear h
    go_enter Try.func52, Try.ntmps52
    go_wp2
    go_quiet (fail)
    go_wp2
    go_ret
    exact ⟨ret_bool HI.out.symm, _, rfl⟩

theorem drop_getD {zs : List Int} {k : Nat} (h : k < zs.length) : zs.drop k = zs.getD k 0 :: zs.drop (k + 1) := by
  rw [List.drop_eq_getElem_cons h]
  simp [h]
/-- Among digits: what is still to come. -/
theorem dlen_on {zs : List Int} {p k : Nat} {z : Int} (hk : k < zs.length) (hz : zs.getD k 0 = z) (hd : Dig z) (h : p + dlen (zs.drop p) = k + dlen (zs.drop k)) : p + dlen (zs.drop p) = k + 1 + dlen (zs.drop (k + 1)) := by
  rw [h, drop_getD hk, hz, dlen_cons hd]
  omega
theorem dlen_stop {zs : List Int} {p k : Nat} {z : Int} (hk : k < zs.length) (hz : zs.getD k 0 = z) (hd : ¬ Dig z) (h : p + dlen (zs.drop p) = k + dlen (zs.drop k)) : p + dlen (zs.drop p) = k := by
  rw [h, drop_getD hk, hz]
  simp only [dlen, if_neg hd]
  omega
theorem dlen_end {zs : List Int} {p k : Nat} (hk : ¬ k < zs.length) (h : p + dlen (zs.drop p) = k + dlen (zs.drop k)) : p + dlen (zs.drop p) = k := by
  rw [h, List.drop_of_length_le (by omega)]
  rfl

theorem below_draws {B : Nat} {a w : World} (h : Below B a w) (n : Nat) : Below B a (w.drewN n) := h.trans ⟨rfl, rfl, rfl, Nat.le_refl _, fun _ _ => rfl⟩

set_option maxHeartbeats 1600000 in
theorem digits_any {w : World} {B g len cap : Nat} {zs : List Int} {p : Nat} {due : Int} (h : LexAt w B g len cap zs p due) (hd : 0 < dlen (zs.drop p)) :
    Calls Try.prog 53 #[.pointer (some ⟨B, 0, none⟩)] w fun e w' => e = .returned (.tuple #[]) ∧ LexAt w' B g len cap zs (p + dlen (zs.drop p)) due ∧ Below B w w' := by
  have h1 := h.here
  have HD : Hid (0 < dlen (zs.drop p)) := hd
  have HLen : Hid (zs.length = len) := h.long
  clear hd
  go_enter Try.func53, Try.ntmps53
  go_wp2
  go_loopg [] (len - p) (fun gk wr => ∃ k : Nat, gk = len - k ∧ p ≤ k ∧ k ≤ len ∧ LexAt wr B g len cap zs k due ∧ Hid (p + dlen (zs.drop p) = k + dlen (zs.drop k)) ∧ Below B w wr)
  case atStart => exact ⟨p, rfl, Nat.le_refl _, h.le, h, rfl, Below.refl _ _⟩
  case round =>
    clear h h1
    obtain ⟨k, rfl, hpk, hkl, hx, hdl, hbl⟩ := hrel
    have h0 := hx.text
    have h1 := hx.here
    have hf := hx.free1
    have hsm := hx.small
    by_cases hlt : k < len
    · have hr := hx.row k hlt
      obtain ⟨z, hz⟩ : ∃ z, zs.getD k 0 = z := ⟨_, rfl⟩
      rw [hz] at hr
      have HZ : Hid (zs.getD k 0 = z) := hz
      have hlt' : (k : Int) < (len : Int) := by omega
      have HX : Hid (LexAt wr B g len cap zs k due) := hx
      clear hz hx
      by_cases z0 : 48 ≤ z
      · by_cases z9 : z ≤ 57
        · have hnx := fun n => (HX.out.draws n).next hlt
          have HN : Hid (∀ n, LexAt ((wr.drewN n).setCell ⟨B, 1, none⟩ (.int .i64 ((k : Int) + 1))) B g len cap zs (k + 1) due) := hnx
          clear hnx
          go_wp2
          go_quiet (fail)
          go_wp2
          go_roundg (len - (k + 1))
          case measure => omega
          case rel => exact ⟨k + 1, rfl, by omega, by omega, HN.out _, dlen_on (by have := HLen.out; omega) HZ.out ⟨z0, z9⟩ hdl.out, (below_draws hbl _).setCell (Nat.le_refl _) _⟩
        · have he : p + dlen (zs.drop p) = k := dlen_stop (by have := HLen.out; omega) HZ.out (by unfold Dig; omega) hdl.out
          have hne : ((k : Int) == (p : Int)) = false := by have := HD.out; simp; omega
          have HE : Hid (p + dlen (zs.drop p) = k) := he
          have z9' : decide (z ≤ 57) = false := by simp; omega
          clear he
          go_wp2
          go_quiet (fail)
          go_wp2
          go_end0
          exact ⟨rfl, by rw [HE.out]; exact HX.out.draws _, below_draws hbl _⟩
      · have z0' : decide (48 ≤ z) = false := by simp; omega
        have he : p + dlen (zs.drop p) = k := dlen_stop (by have := HLen.out; omega) HZ.out (by unfold Dig; omega) hdl.out
        have hne : ((k : Int) == (p : Int)) = false := by have := HD.out; simp; omega
        have HE : Hid (p + dlen (zs.drop p) = k) := he
        clear he
        go_wp2
        go_quiet (fail)
        go_wp2
        go_end0
        exact ⟨rfl, by rw [HE.out]; exact HX.out.draws _, below_draws hbl _⟩
    · have hlt' : decide ((k : Int) < (len : Int)) = false := by simp; omega
      have HX : Hid (LexAt wr B g len cap zs k due) := hx
      have he : p + dlen (zs.drop p) = k := dlen_end (by have := HLen.out; omega) hdl.out
      have hne : ((k : Int) == (p : Int)) = false := by have := HD.out; simp; omega
      have HE : Hid (p + dlen (zs.drop p) = k) := he
      clear he hx
      go_wp2
      go_quiet (fail)
      go_wp2
      go_end0
      exact ⟨rfl, by rw [HE.out]; exact HX.out.draws _, below_draws hbl _⟩
end Go.Proofs.Qxb6003361a.Num
