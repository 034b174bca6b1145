/-
  Bytes in memory, and zzCloneBytes_configg2: a row of its own with the same bytes.
-/
import Derived.Test.Qxb6003361aRows
import Derived.WalkKit
import Derived.WalkSpells
import Derived.ProofKit
import Derived.OpenShut
namespace Go.Proofs.Qxb6003361a
open Go.RowKit

theorem info5 : (Try.prog.info? 5).map (fun i => (i.zero, i.size, i.bytes)) = some (some (.int .u8 0), 1, 1) := by kernel_rfl

/-- A slice at 'a' of 'zs.length' bytes reads zs. -/
def Src (w : World) (a : Option Addr) (zs : List Int) : Prop :=
  zs.length = 0 ∨ ∃ b off, a = some ⟨b, off, none⟩ ∧ b < w.heap.size ∧ ∀ i, i < zs.length → w.cell? ⟨b, off + i, none⟩ = some (.int .u8 (zs.getD i 0))

/-- The slice value v owns the bytes zs, among the blocks from 'base' on. -/
def Row (w : World) (base : Nat) (v : Value) (zs : List Int) : Prop := w.ownsRow base 5 1 v zs.length (zs.map (Value.int .u8))

theorem Row.cell {w : World} {base g n cap : Nat} {zs : List Int} (h : Row w base (.slice (some ⟨g, 0, none⟩) n cap) zs) (hn : zs.length = n) (i : Nat) (hi : i < n) :
    w.cell? ⟨g, i, none⟩ = some (.int .u8 (zs.getD i 0)) := by
  subst hn
  have := World.ownsRow.cellAt h i (by omega)
  rw [this]
  simp [hi]
theorem Row.free {w : World} {base g n cap : Nat} {zs : List Int} (h : Row w base (.slice (some ⟨g, 0, none⟩) n cap) zs) (hn : zs.length = n) (i : Nat) : w.frozen? ⟨g, i, none⟩ = false := by
  subst hn
  exact World.ownsRow.frozenAt h i
theorem Row.set {w : World} {base g n cap : Nat} {zs : List Int} (h : Row w base (.slice (some ⟨g, 0, none⟩) n cap) zs) (hn : zs.length = n) (i : Nat) (c : Int) :
    Row (w.setCell ⟨g, i, none⟩ (.int .u8 c)) base (.slice (some ⟨g, 0, none⟩) n cap) (zs.set i c) := by
  subst hn
  have := (World.ownsRow.stored h i (.int .u8 c)).1
  unfold Row
  rw [List.map_set, List.length_set]
  exact this
theorem Row.made {w : World} {base g n : Nat} (h : w.ownsRow base 5 1 (.slice (some ⟨g, 0, none⟩) n n) n (madeCells #[Value.int .u8 0] n).toList) : Row w base (.slice (some ⟨g, 0, none⟩) n n) (List.replicate n 0) := by
  unfold Row
  rw [toList_madeCells_one] at h
  simpa using h

theorem clone_done {ys zs : List Int} {len k : Nat} (hz : zs.length = len) (hy : ys.length = len) (hk : len ≤ k) (h : ∀ j, j < k → ys[j]? = zs[j]?) : ys = zs := by
  apply List.ext_getElem?
  intro j
  by_cases hj : j < k
  · exact h j hj
  · rw [List.getElem?_eq_none (by omega), List.getElem?_eq_none (by omega)]

theorem clone_step {ys zs : List Int} {k : Nat} (hz : k < zs.length) (hy : k < ys.length) (h : ∀ j, j < k → ys[j]? = zs[j]?) : ∀ j, j < k + 1 → (ys.set k (zs.getD k 0))[j]? = zs[j]? := by
  intro j hj
  by_cases e : j = k
  · subst e
    rw [List.getElem?_set_self hy, List.getElem?_eq_getElem hz]
    simp [hz]
  · rw [List.getElem?_set_ne (by omega)]
    exact h j (by omega)

set_option maxHeartbeats 800000 in
theorem clone_any (a : Option Addr) (len cap : Nat) (zs : List Int) (w : World) (hs : Src w a zs) (hl : zs.length = len) (hn : a = none → len = 0) (hm : len ≤ 140737488351232) :
    Calls Try.prog 15 #[.slice a len cap] w fun e w' => (∃ v, e = .returned v ∧ Row w' w.heap.size v zs) ∧ Below w.heap.size w w' := by
  obtain ⟨i0, hi, hz0, hz1, hz2⟩ := info_parts info5
  cases a with
  | none =>
    have h0 := hn rfl
    subst h0
    obtain rfl : zs = [] := List.length_eq_zero_iff.1 hl
    have hnil := fun (W : World) => Lib.run_eql_slice_nil (P := Try.prog) W 22 5 none 0 cap 0 0 Try.underlying22
    clear hn hm hs hl
    go_enter Try.func15, Try.ntmps15
    go_wp2
    go_ret
    exact ⟨⟨_, rfl, World.ownsRow_nil _ _ _ _⟩, Below.refl _ _⟩
  | some x =>
    have hnil := fun (W : World) (c : Nat) => Lib.run_eql_slice_nil (P := Try.prog) W 22 5 (some x) len c 0 0 Try.underlying22
    clear hn
    have hm2 : len ≤ 281474976710656 := by omega
    have hm3 : len ≤ maxLen := by unfold maxLen; omega
    by_cases h0 : len = 0
    · subst h0
      obtain rfl : zs = [] := List.length_eq_zero_iff.1 hl
      clear hs hl hm hm2
      go_enter Try.func15, Try.ntmps15
      go_wp2_with (at_make; refine wpList_make_full _ rfl _ _ 22 rfl w.heap.size 5 i0 (.int .u8 0) 1 Try.underlying22 hi hz0 hz1 _ _ _ _ 0 rfl rfl rfl rfl (by omega) hm3 (Nat.le_refl _) ?_)
      intro w1 hown hgrow
      have hr := Row.made hown
      clear hown
      go_wp2
      refine wp_loop_rounds 1 ?_; rw [rounds_succ]
      go_wp2
      go_ret
      exact ⟨⟨_, rfl, hr⟩, (Below.refl _ _).grown hgrow (Nat.le_refl _) (by simp)⟩
    · obtain ⟨b, off, hx, hb, hc⟩ := hs.resolve_left (by omega)
      obtain rfl : x = ⟨b, off, none⟩ := by simpa using hx
      clear hx hs
      have hlz : len ≤ zs.length := by omega
      have HL : Hid (zs.length = len) := hl
      clear hl h0
      go_enter Try.func15, Try.ntmps15
      go_wp2_with (at_make; refine wpList_make_full _ rfl _ _ 22 rfl w.heap.size 5 i0 (.int .u8 0) 1 Try.underlying22 hi hz0 hz1 _ _ _ _ len rfl rfl rfl rfl (by rw [hz2]; omega) hm3 (Nat.le_refl _) ?_)
      intro w1 hown hgrow
      have hr := Row.made hown
      have hbl : Below w.heap.size w w1 := (Below.refl _ _).grown hgrow (Nat.le_refl _) (by simp)
      clear hown hgrow hi hz0 hz1 hz2
      go_wp2
      go_loopw [4] (fun i wr => ∃ k : Nat, ∃ ys : List Int, k ≤ len ∧ i = .int .i64 k ∧ Row wr w.heap.size (.slice (some ⟨w.heap.size, 0, none⟩) len len) ys ∧ Hid (ys.length = len) ∧ Hid (∀ j, j < k → ys[j]? = zs[j]?) ∧ Below w.heap.size w wr)
        (fun i _ => len - (intOf i).toNat)
      case atStart => exact ⟨0, _, Nat.zero_le _, rfl, hr, List.length_replicate, fun j hj => by omega, hbl⟩
      case round =>
        clear hr hbl
        obtain ⟨k, ys, hk, rfl, hr, hyl, hpre, hbl⟩ := hrel
        by_cases hlt : k < len
        · have hcell : wr.cell? ⟨b, off + k, none⟩ = some (.int .u8 (zs.getD k 0)) := (hbl.cell (p := ⟨b, off + k, none⟩) hb).trans (hc k (by omega))
          have hcy := hr.cell hyl.out k hlt
          have hfy := hr.free hyl.out k
          have hset := hr.set hyl.out k (zs.getD k 0)
          go_wp2
          go_roundw
          case rel => exact ⟨k + 1, _, by omega, by go_num, hset, by rw [List.length_set]; exact hyl.out, clone_step (by omega) (by rw [hyl.out]; exact hlt) hpre.out, hbl.setCell (Nat.le_refl _) _⟩
          case measure => simp [intOf]; omega
        · go_wp2
          go_ret
          exact ⟨⟨_, rfl, by rw [← clone_done HL.out hyl.out (by omega) hpre.out]; exact hr⟩, hbl⟩

/-- What a row is, as a slice value. -/
theorem Row.view {w : World} {base : Nat} {v : Value} {zs : List Int} (h : Row w base v zs) :
    ∃ a c, v = .slice a zs.length c ∧ (0 < zs.length → ∃ g, a = some ⟨g, 0, none⟩ ∧ base ≤ g ∧ g < w.heap.size ∧ ∀ i, i < zs.length → w.cell? ⟨g, i, none⟩ = some (.int .u8 (zs.getD i 0))) := by
  have h0 := h
  rcases h.2 with ⟨rfl, hz⟩ | ⟨g, cap, cur, rfl, hb, hg, _⟩
  · exact ⟨none, 0, by rw [hz], fun hp => by omega⟩
  · refine ⟨_, cap, rfl, fun _ => ⟨g, rfl, hb, ?_, fun i hi => h0.cell rfl i hi⟩⟩
    exact (World.ownsRow.lt h0 g rfl).2

theorem lt_of_cell {w : World} {b o : Nat} {v : Value} (h : w.cell? ⟨b, o, none⟩ = some v) : b < w.heap.size := by
  rcases Nat.lt_or_ge b w.heap.size with hlt | hge
  · exact hlt
  · have : w.heap[b]? = none := by simp [hge]
    simp [World.cell?, this] at h

theorem src_of {w : World} {x : Addr} {len cap : Nat} {zs : List Int} (hl : len ≤ cap) (hz : zs.length = cap)
    (hc : ∀ i, i < zs.length → w.cell? (x.add i) = some (.int .u8 (zs.getD i 0))) : Src w (some x) (zs.take len) := by
  by_cases h0 : (zs.take len).length = 0
  · exact .inl h0
  · have hlen : (zs.take len).length = len := by simp; omega
    obtain ⟨b, off, rfl, hj⟩ := ints_at hc (by omega)
    refine .inr ⟨b, off, rfl, lt_of_cell (hj 0 (by omega)), fun i hi => ?_⟩
    rw [hj i (by omega)]
    have : i < len := by omega
    simp [List.getD, this]
end Go.Proofs.Qxb6003361a
