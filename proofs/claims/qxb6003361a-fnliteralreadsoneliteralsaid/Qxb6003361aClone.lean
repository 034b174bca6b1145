/-
  zzCloneBytes (the one that copies by the builtin): a row of its own with the same bytes.
-/
import Derived.Test.Qxb6003361aMem
import Derived.Laws.CopyOwn
namespace Go.Proofs.Qxb6003361a
open Go.RowKit

theorem Row.block {w : World} {base g n : Nat} {zs : List Int} (h : Row w base (.slice (some ⟨g, 0, none⟩) n n) zs) (hn : zs.length = n) : w.heap[g]? = some (.cells (zs.map (Value.int .u8)).toArray 5 (0, 0)) := by
  rcases h.2 with ⟨h', _⟩ | ⟨g', cap', cur, h', _, hg, _, _, hsz, htake⟩
  · simp at h'
  · simp only [Value.slice.injEq, Option.some.injEq, Addr.mk.injEq, and_true] at h'
    obtain ⟨rfl, _, rfl⟩ := h'
    rw [hg, ← htake, List.take_of_length_le (by simp [hsz, hn])]
theorem Row.of_block {w : World} {base g n : Nat} {zs : List Int} (hb : base ≤ g) (hm : n ≤ maxLen) (hn : zs.length = n) (h : w.heap[g]? = some (.cells (zs.map (Value.int .u8)).toArray 5 (0, 0))) : Row w base (.slice (some ⟨g, 0, none⟩) n n) zs := by
  subst hn
  exact ⟨by simp, .inr ⟨g, _, _, rfl, hb, h, Nat.le_refl _, hm, by simp, List.take_of_length_le (by simp)⟩⟩
theorem splice_all {α : Type} (L cs : List α) (h : cs.length = L.length) : splice L 0 cs = cs := by
  simp [splice, h]

theorem copy_src {w w1 : World} {x : Addr} {zs : List Int} (hs : Src w (some x) zs) (hb : Below w.heap.size w w1) : 0 < zs.length → ∀ (j : Nat) (a : Int), zs[j]? = some a → w1.cell? (x.add j) = some (Value.int .u8 a) := by
  intro hp j a hj
  obtain ⟨b, off, hx, hlt, hc⟩ := hs.resolve_left (by omega)
  obtain rfl : x = ⟨b, off, none⟩ := by simpa using hx
  obtain ⟨hjl, hja⟩ := List.getElem?_eq_some_iff.1 hj
  have e : (⟨b, off, none⟩ : Addr).add j = ⟨b, off + j, none⟩ := by simp [Addr.add]
  rw [e, hb.cell (p := ⟨b, off + j, none⟩) hlt, hc j hjl]
  simp [List.getD, hj]

set_option maxHeartbeats 800000 in
theorem copy_any (a : Option Addr) (len cap : Nat) (zs : List Int) (w : World) (hs : Src w a zs) (hl : zs.length = len) (hn : a = none → len = 0) (hm : len ≤ 140737488351232) :
    Calls Try.prog 12 #[.slice a len cap] w fun e w' => (∃ v, e = .returned v ∧ Row w' w.heap.size v zs) ∧ Below w.heap.size w w' := by
  obtain ⟨i0, hi, hz0, hz1, hz2⟩ := info_parts info5
  cases a with
  | none =>
    have h0 := hn rfl
    subst h0
    obtain rfl : zs = [] := List.length_eq_zero_iff.1 hl
    have hnil := fun (W : World) => Lib.run_eql_slice_nil (P := Try.prog) W 22 5 none 0 cap 0 0 Try.underlying22
    clear hn hm hs hl
    go_enter Try.func12, Try.ntmps12
    go_wp2
    go_ret
    exact ⟨⟨_, rfl, World.ownsRow_nil _ _ _ _⟩, Below.refl _ _⟩
  | some x =>
    have hnil := fun (W : World) (c : Nat) => Lib.run_eql_slice_nil (P := Try.prog) W 22 5 (some x) len c 0 0 Try.underlying22
    clear hn
    have hm3 : len ≤ maxLen := by unfold maxLen; omega
    have HS : Hid (Src w (some x) zs) := hs
    have HL : Hid (zs.length = len) := hl
    clear hs hl
    go_enter Try.func12, Try.ntmps12
    go_wp2_with (at_make; refine wpList_make_full _ rfl _ _ 22 rfl w.heap.size 5 i0 (.int .u8 0) 1 Try.underlying22 hi hz0 hz1 _ _ _ _ len rfl rfl rfl rfl (by rw [hz2]; omega) hm3 (Nat.le_refl _) ?_)
    intro w1 hown hgrow
    have hr := Row.made hown
    have hbl : Below w.heap.size w w1 := (Below.refl _ _).grown hgrow (Nat.le_refl _) (by simp)
    have HBlk := hr.block List.length_replicate
    have HB : Hid (w1.heap[w.heap.size]? = some (.cells ((List.replicate len (0 : Int)).map (Value.int .u8)).toArray 5 (0, 0))) := HBlk
    clear hown hgrow hi hz0 hz1 hz2 hr HBlk
    go_wp2_with (refine wpList_copy_splice rfl _ _ 22 22 rfl 5 Try.underlying22 (by kernel_rfl) _ _ _ _ _ _ rfl rfl w.heap.size 0 _ 5 HB.out (zs.map (Value.int .u8)) ?h1 ?h2 ?h3 ?h4 w.heap.size w hbl (Nat.le_refl _) ?_)
    case h1 => have := HL.out; simp [this]
    case h2 => exact copy_src HS.out hbl
    case h3 => have := HL.out; simp [this]
    case h4 => exact ints_oneCell _ _
    intro w2 hb2 hbl2
    have HR : Hid (Row w2 w.heap.size (.slice (some ⟨w.heap.size, 0, none⟩) len len) zs) := Row.of_block (Nat.le_refl _) hm3 HL.out (by have := hb2.out; rwa [splice_all _ _ (by have := HL.out; simp [this])] at this)
    clear hb2 HB
    go_wp2
    go_ret
    exact ⟨⟨_, rfl, HR.out⟩, hbl2⟩
end Go.Proofs.Qxb6003361a
