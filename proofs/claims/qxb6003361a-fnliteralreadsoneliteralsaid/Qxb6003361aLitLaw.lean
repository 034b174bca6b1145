/-
  FnLiteralReadsOneLiteral: the law at every input.
-/
import Derived.Test.Qxb6003361aLitWalk
namespace Go.Proofs.Qxb6003361a.Lit
open Go.RowKit Go.Proofs.Qxb6003361a.Num

/-- What is known of a slice of bytes that came in. -/
structure In (w : World) (a : Option Addr) (len : Nat) (zs : List Int) : Prop where
  src : Src w a zs
  long : zs.length = len
  nil : a = none → len = 0
  byte : ∀ i, 0 ≤ zs.getD i 0 ∧ zs.getD i 0 ≤ 255
  fits : len ≤ maxLen

theorem In.none (w : World) : In w Option.none 0 [] := ⟨.inl rfl, rfl, fun _ => rfl, fun i => by simp, Nat.zero_le _⟩
theorem In.some {w : World} {x : Addr} {len cap : Nat} {zs : List Int} (hl : len ≤ cap) (hm : cap ≤ maxLen) (hz : zs.length = cap) (hc : ∀ i, i < zs.length → w.cell? (x.add i) = Option.some (.int .u8 (zs.getD i 0))) (hw : ∀ n ∈ zs, (Lit.int .u8 n).wf = true) :
    In w (Option.some x) len (zs.take len) := ⟨src_of hl hz hc, by simp; omega, (fun h => by cases h), bytes_of hw len, Nat.le_trans hl hm⟩

theorem bytes_any (which : Int) (neg : Bool) (ai : Option Addr) (li ci : Nat) (hf : Bool) (af : Option Addr) (lf cf : Nat) (he : Bool) (es : Int) (ae : Option Addr) (le ce : Nat) (t : Int) (w : World)
    (h1 : li ≤ maxLen) (h2 : lf ≤ maxLen) (h3 : le ≤ maxLen) :
    Calls Try.prog 14 #[.int .u8 which, .bool neg, .slice ai li ci, .bool hf, .slice af lf cf, .bool he, .int .u8 es, .slice ae le ce, .int .u8 t] w fun e w' => (∃ r, e = .returned (.bool r)) ∧ w' = w := by
  unfold maxLen at h1 h2 h3
  go_enter Try.func14, Try.ntmps14
  go_wp2
  all_goals (go_ret; exact ⟨⟨_, rfl⟩, rfl⟩)

set_option maxHeartbeats 800000 in
theorem lit_law (which : Int) (neg : Bool) (ai : Option Addr) (li ci : Nat) (zi : List Int) (hf : Bool) (af : Option Addr) (lf cf : Nat) (zf : List Int) (he : Bool) (es : Int) (ae : Option Addr) (le ce : Nat) (ze : List Int) (t : Int) (w : World)
    (hw : (Lit.int .u8 which).wf = true) (hs : (Lit.int .u8 es).wf = true) (ht : (Lit.int .u8 t).wf = true) (i1 : In w ai li zi) (i2 : In w af lf zf) (i3 : In w ae le ze) :
    Calls Try.prog 4 #[.int .u8 which, .bool neg, .slice ai li ci, .bool hf, .slice af lf cf, .bool he, .int .u8 es, .slice ae le ce, .int .u8 t] w fun e w' => e = .returned (.bool true) ∧ Below w.heap.size w w' := by
  obtain ⟨hw0, hw1⟩ := bounds_u8 hw
  obtain ⟨hs0, hs1⟩ := bounds_u8 hs
  obtain ⟨ht0, ht1⟩ := bounds_u8 ht
  by_cases hsm : li ≤ 65536 ∧ lf ≤ 65536 ∧ le ≤ 65536
  · obtain ⟨h1, h2, h3⟩ := hsm
    exact lit_walk which neg ai li ci zi hf af lf cf zf he es ae le ce ze t w h1 h2 h3 hw0 hw1 hs0 hs1 ht0 ht1 i1.src i2.src i3.src i1.long i2.long i3.long i1.nil i2.nil i3.nil i1.byte i2.byte i3.byte
  · have hb := bytes_any which neg ai li ci hf af lf cf he es ae le ce t w i1.fits i2.fits i3.fits
    clear hw hs ht i1 i2 i3
    by_cases h1 : li ≤ 65536
    · by_cases h2 : lf ≤ 65536
      · have h3 : ¬ le ≤ 65536 := fun h3 => hsm ⟨h1, h2, h3⟩
        clear hsm
        go_enter Try.func4, Try.ntmps4
        go_wp2_with fail
        refine hb.mono ?_
        rintro e w' ⟨⟨r, rfl⟩, rfl⟩
        clear hb
        go_wp2
        all_goals (go_ret; exact ⟨rfl, Below.refl _ _⟩)
      · clear hsm
        go_enter Try.func4, Try.ntmps4
        go_wp2_with fail
        refine hb.mono ?_
        rintro e w' ⟨⟨r, rfl⟩, rfl⟩
        clear hb
        go_wp2
        all_goals (go_ret; exact ⟨rfl, Below.refl _ _⟩)
    · clear hsm
      go_enter Try.func4, Try.ntmps4
      go_wp2_with fail
      refine hb.mono ?_
      rintro e w' ⟨⟨r, rfl⟩, rfl⟩
      clear hb
      go_wp2
      all_goals (go_ret; exact ⟨rfl, Below.refl _ _⟩)
end Go.Proofs.Qxb6003361a.Lit
