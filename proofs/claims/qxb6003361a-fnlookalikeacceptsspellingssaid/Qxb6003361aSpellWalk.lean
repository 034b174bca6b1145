/-
  FnLookalikeAcceptsSpellings: the walk of the law.
-/
import Derived.Test.Qxb6003361aSpell
namespace Go.Proofs.Qxb6003361a
open Go.RowKit

theorem below_draws {B : Nat} {a w : World} (h : Below B a w) (n : Nat) : Below B a (w.drewN n) := h.trans ⟨rfl, rfl, rfl, Nat.le_refl _, fun _ _ => rfl⟩

theorem spell_step {s : ByteArray} {ns : List Int} {k : Nat} {c : Int} (hk : k < s.size) (h0 : 0 ≤ c) (h1 : c ≤ 255) (hf : fold c = fold (s[k].toNat : Int)) (hl : ns.length = s.size) (hb : ∀ c ∈ ns, 0 ≤ c ∧ c ≤ 255)
    (hp : ∀ j (hj : j < s.size), j < k → fold (ns.getD j 0) = fold (s[j].toNat : Int)) :
    (ns.set k c).length = s.size ∧ (∀ x ∈ ns.set k c, 0 ≤ x ∧ x ≤ 255) ∧ ∀ j (hj : j < s.size), j < k + 1 → fold ((ns.set k c).getD j 0) = fold (s[j].toNat : Int) := by
  refine ⟨by rw [List.length_set]; exact hl, ?_, ?_⟩
  · intro x hx
    rcases List.mem_or_eq_of_mem_set hx with hx | rfl
    · exact hb x hx
    · exact ⟨h0, h1⟩
  · intro j hj hjk
    by_cases e : j = k
    · subst e
      rw [← hf]
      simp [List.getD, show j < ns.length by omega]
    · rw [← hp j hj (by omega)]
      simp only [List.getD]
      rw [List.getElem?_set_ne (by omega)]

set_option maxHeartbeats 4000000 in
theorem spell_walk (s : ByteArray) (a : Option Addr) (len cap : Nat) (zs : List Int) (pos d : Int) (w : World) (hd0 : 0 ≤ d) (hd1 : d ≤ 255)
    (hs : Src w a zs) (hl : zs.length = len) (hn : a = none → len = 0) (h1 : s.size ≤ 65536) (h2 : len ≤ 65536) :
    Calls Try.prog 8 #[.string s, .slice a len cap, .int .i64 pos, .int .u8 d] w fun e w' => e = .returned (.bool true) ∧ Below w.heap.size w w' := by
  obtain ⟨i0, hi, hz0, hz1, hz2⟩ := info_parts info5
  have hm3 : s.size ≤ maxLen := by unfold maxLen; omega
  go_enter Try.func8, Try.ntmps8
  go_wp2_with fail
  refine (bytes2_any s a len cap pos d _ h1 h2).mono ?_
  rintro e w' ⟨rfl, hww⟩
  obtain rfl : w = w' := hww.symm
  go_wp2_with fail
  refine (clone_any a len cap zs _ hs hl hn (by omega)).mono ?_
  rintro e w1 ⟨⟨v, rfl, hrow⟩, hbel⟩
  obtain ⟨a', c', hv, hview⟩ := hrow.view
  rw [hl] at hv hview
  rw [hv]
  clear hv hrow hs hl hn
  go_wp2_with (at_make; refine wpList_make_full _ rfl _ _ 22 rfl w1.heap.size 5 i0 (.int .u8 0) 1 Try.underlying22 hi hz0 hz1 _ _ _ _ s.size rfl rfl rfl rfl (by rw [hz2]; omega) hm3 (Nat.le_refl _) ?_)
  intro w2 hown hgrow
  have hr := Row.made hown
  have hbl : Below w1.heap.size w1 w2 := (Below.refl _ _).grown hgrow (Nat.le_refl _) (by simp)
  clear hown hgrow hi hz0 hz1 hz2
  go_wp2
  go_loopw [10] (fun i wr => ∃ k : Nat, ∃ ns : List Int, k ≤ s.size ∧ i = .int .i64 k ∧ Row wr w1.heap.size (.slice (some ⟨w1.heap.size, 0, none⟩) s.size s.size) ns ∧ Hid (ns.length = s.size) ∧ Hid (∀ c ∈ ns, 0 ≤ c ∧ c ≤ 255) ∧ Hid (∀ j (hj : j < s.size), j < k → fold (ns.getD j 0) = fold (s[j].toNat : Int)) ∧ Below w1.heap.size w1 wr)
    (fun i _ => s.size - (intOf i).toNat)
  case atStart => exact ⟨0, _, Nat.zero_le _, rfl, hr, List.length_replicate, by intro c hc; simp at hc; omega, fun j hj h => by omega, hbl⟩
  case round =>
    clear hr hbl
    obtain ⟨k, ns, hk, rfl, hr, hnl, hnb, hpre, hbl⟩ := hrel
    by_cases hlt : k < s.size
    · have hcy := hr.cell hnl.out k hlt
      have hfy := hr.free hnl.out k
      by_cases h8 : k / 8 < len
      · obtain ⟨g, ha', hg1, hg2, hgc⟩ := hview (by omega)
        have hcm : wr.cell? ⟨g, k / 8, none⟩ = some (.int .u8 (zs.getD (k / 8) 0)) := (hbl.cell (p := ⟨g, k / 8, none⟩) hg2).trans (hgc _ h8)
        subst ha'
        clear hview hgc
        go_wp2_with (go_at_call 33; refine (other_any _ (by omega) (by have := UInt8.toNat_lt s[k]; omega) _).mono ?_; rintro e w' ⟨rfl, rfl⟩)
        · obtain ⟨q1, q2⟩ := other_byte (c := (s[k].toNat : Int)) (by omega) (by have := UInt8.toNat_lt s[k]; omega)
          have st := spell_step hlt q1 q2 (fold_other _) hnl.out hnb.out hpre.out
          have hset := hr.set hnl.out k (other (s[k].toNat : Int))
          go_roundw
          case rel => exact ⟨k + 1, _, by omega, by go_num, hset, st.1, st.2.1, st.2.2, hbl.setCell (Nat.le_refl _) _⟩
          case measure => simp [intOf]; omega
        · have st := spell_step hlt (by omega) (by have := UInt8.toNat_lt s[k]; omega) rfl hnl.out hnb.out hpre.out
          have hset := hr.set hnl.out k (s[k].toNat : Int)
          go_roundw
          case rel => exact ⟨k + 1, _, by omega, by go_num, hset, st.1, st.2.1, st.2.2, hbl.setCell (Nat.le_refl _) _⟩
          case measure => simp [intOf]; omega
      · go_wp2_with (go_at_call 33; refine (other_any _ (by omega) (by have := UInt8.toNat_lt s[k]; omega) _).mono ?_; rintro e w' ⟨rfl, rfl⟩)
        have st := spell_step hlt (by omega) (by have := UInt8.toNat_lt s[k]; omega) rfl hnl.out hnb.out hpre.out
        have hset := hr.set hnl.out k (s[k].toNat : Int)
        go_roundw
        case rel => exact ⟨k + 1, _, by omega, by go_num, hset, st.1, st.2.1, st.2.2, hbl.setCell (Nat.le_refl _) _⟩
        case measure => simp [intOf]; omega
    · have hlook : look (strOfNums ns) s = true := look_nums s ns hnl.out hnb.out fun j hj => hpre.out j hj (by omega)
      have hz : (strOfNums ns).size ≤ maxLen := by rw [strOfNums_size, hnl.out]; exact hm3
      have hB : Below w.heap.size w wr := hbel.trans (hbl.mono hbel.size)
      have HB : Hid (Below w.heap.size w wr) := hB
      have kc : ∀ W : World, (∀ i, W.cell? ⟨w1.heap.size, i, none⟩ = wr.cell? ⟨w1.heap.size, i, none⟩) → (convert 22 9 (.slice (some ⟨w1.heap.size, 0, none⟩) s.size s.size)).run Try.prog W = .ok (.string (strOfNums ns)) W := fun W hW =>
        run_convert_bytes_arg (P := Try.prog) W 22 5 Try.underlying22 Try.underlying5 w1.heap.size 0 s.size s.size ns hnl.out (fun i hi => by rw [Nat.zero_add, hW]; exact hr.cell hnl.out i hi) 9 Try.underlying9
      have kc0 := kc wr (fun _ => rfl)
      clear hB hview kc hpre hnb
      by_cases p0 : pos < 0
      · go_wp2_with (go_at_call 31; refine (look_any _ _ _ hz).mono ?_; rintro e w' ⟨rfl, n, rfl⟩)
        go_ret
        exact ⟨rfl, below_draws HB.out _⟩
      by_cases p1 : (s.size : Int) ≤ pos
      · go_wp2_with (go_at_call 31; refine (look_any _ _ _ hz).mono ?_; rintro e w' ⟨rfl, n, rfl⟩)
        go_ret
        exact ⟨rfl, below_draws HB.out _⟩
      obtain ⟨p, rfl⟩ := Int.eq_ofNat_of_zero_le (show 0 ≤ pos by omega)
      have hp : p < s.size := by omega
      cases hsp : spell d with
      | true =>
        go_wp2_with (first | (go_at_call 31; refine (look_any _ _ _ hz).mono ?_; rintro e w' ⟨rfl, n, rfl⟩) | (go_at_call 34; refine (spell_any _ hd0 hd1 _).mono ?_; rintro e w' ⟨rfl, rfl⟩))
        go_ret
        exact ⟨rfl, below_draws HB.out _⟩
      | false =>
        cases hdd : (d == (s[p].toNat : Int)) with
        | true =>
          go_wp2_with (first | (go_at_call 31; refine (look_any _ _ _ hz).mono ?_; rintro e w' ⟨rfl, n, rfl⟩) | (go_at_call 34; refine (spell_any _ hd0 hd1 _).mono ?_; rintro e w' ⟨rfl, rfl⟩))
          go_ret
          exact ⟨rfl, below_draws HB.out _⟩
        | false =>
          have hlk2 : look (strOfNums (ns.set p d)) s = false := look_part s ns p d hd0 hd1 hnl.out hp (fold_part hsp (by simpa using hdd))
          have hz2 : (strOfNums (ns.set p d)).size ≤ maxLen := by rw [strOfNums_size, List.length_set, hnl.out]; exact hm3
          have hcp := hr.cell hnl.out p hp
          have hfp := hr.free hnl.out p
          have hr2 : ∀ n, Row ((wr.drewN n).setCell ⟨w1.heap.size, p, none⟩ (.int .u8 d)) w1.heap.size (.slice (some ⟨w1.heap.size, 0, none⟩) s.size s.size) (ns.set p d) := fun n => Row.set (w := wr.drewN n) hr hnl.out p d
          have hl2 : Hid ((ns.set p d).length = s.size) := by rw [List.length_set]; exact hnl.out
          have kc2 : ∀ n, (convert 22 9 (.slice (some ⟨w1.heap.size, 0, none⟩) s.size s.size)).run Try.prog ((wr.drewN n).setCell ⟨w1.heap.size, p, none⟩ (.int .u8 d)) = .ok (.string (strOfNums (ns.set p d))) ((wr.drewN n).setCell ⟨w1.heap.size, p, none⟩ (.int .u8 d)) := fun n =>
            run_convert_bytes_arg (P := Try.prog) _ 22 5 Try.underlying22 Try.underlying5 w1.heap.size 0 s.size s.size _ hl2.out (fun i hi => by rw [Nat.zero_add]; exact (hr2 n).cell hl2.out i hi) 9 Try.underlying9
          have HB2 : Hid (∀ n, Below w.heap.size w ((wr.drewN n).setCell ⟨w1.heap.size, p, none⟩ (.int .u8 d))) := fun n => (below_draws HB.out n).setCell hbel.size _
          clear hr2
          go_wp2_with fail
          refine (look_any (strOfNums ns) s _ hz).mono ?_
          rintro e w' ⟨rfl, n, rfl⟩
          go_wp2_with fail
          refine (spell_any d hd0 hd1 _).mono ?_
          rintro e w' ⟨rfl, rfl⟩
          go_wp2_with fail
          refine (look_any (strOfNums (ns.set p d)) s _ hz2).mono ?_
          rintro e w' ⟨rfl, m, rfl⟩
          go_wp2
          go_ret
          exact ⟨rfl, below_draws (HB2.out _) _⟩

/-- The law at every input: where a length is greater than 65536 it answers at once. -/
theorem spell_law (s : ByteArray) (a : Option Addr) (len cap : Nat) (zs : List Int) (pos d : Int) (w : World) (hd : (Lit.int .u8 d).wf = true) (hsz : s.size ≤ maxLen) (hm : len ≤ maxLen)
    (hs : Src w a zs) (hl : zs.length = len) (hn : a = none → len = 0) :
    Calls Try.prog 8 #[.string s, .slice a len cap, .int .i64 pos, .int .u8 d] w fun e w' => e = .returned (.bool true) ∧ Below w.heap.size w w' := by
  obtain ⟨hd0, hd1⟩ := bounds_u8 hd
  by_cases h1 : s.size ≤ 65536
  · by_cases h2 : len ≤ 65536
    · exact spell_walk s a len cap zs pos d w hd0 hd1 hs hl hn h1 h2
    · unfold maxLen at hsz hm
      clear hs hl hn hd
      go_enter Try.func8, Try.ntmps8
      go_wp2
      all_goals (go_ret; exact ⟨rfl, Below.refl _ _⟩)
  · unfold maxLen at hsz hm
    clear hs hl hn hd
    go_enter Try.func8, Try.ntmps8
    go_wp2
    all_goals (go_ret; exact ⟨rfl, Below.refl _ _⟩)
end Go.Proofs.Qxb6003361a
