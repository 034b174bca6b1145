/-
  FnLiteralReadsOneLiteral: the walk of the law.
-/
import Derived.Test.Qxb6003361aLitPlain
import Derived.Deep.CutBlock
namespace Go.Proofs.Qxb6003361a.Lit
open Go.RowKit Go.Proofs.Qxb6003361a.Num

theorem bytes_yes (which : Int) (neg : Bool) (ai : Option Addr) (li ci : Nat) (hf : Bool) (af : Option Addr) (lf cf : Nat) (he : Bool) (es : Int) (ae : Option Addr) (le ce : Nat) (t : Int) (w : World)
    (h1 : li ≤ 65536) (h2 : lf ≤ 65536) (h3 : le ≤ 65536) :
    Calls Try.prog 14 #[.int .u8 which, .bool neg, .slice ai li ci, .bool hf, .slice af lf cf, .bool he, .int .u8 es, .slice ae le ce, .int .u8 t] w fun e w' => e = .returned (.bool true) ∧ w' = w := by
  go_enter Try.func14, Try.ntmps14
  go_wp2
  go_ret
  exact ⟨rfl, rfl⟩

/-- A literal: what it is, and that the lexer reads it whatever may follow. -/
def LitOK (ys : List Int) (want : ByteArray) : Prop :=
  ys.length ≤ 1048576 ∧ ∃ c r, ys = c :: r ∧ kindB c = want ∧ (c = 116 ∨ c = 102 ∨ c = 110 ∨ c = 45 ∨ (48 ≤ c ∧ c ≤ 57)) ∧ ∀ k, LitAt (ys ++ tl (tailB k)) 0 c ys.length

theorem newlexer_any (a : Option Addr) (len cap : Nat) (w : World) : Calls Try.prog 19 #[.slice a len cap] w fun e w' => e = .returned (.pointer (some ⟨w.heap.size, 0, none⟩)) ∧
    w' = w.alloc (.cells #[.slice a len cap, .int .i64 (0 : Nat), .int .u8 0, .slice none 0 0] 63) := by
  go_enter Try.func19, Try.ntmps19
  go_wp2
  go_ret
  exact ⟨rfl, rfl⟩
theorem at_any {w : World} {B g len cap : Nat} {zs : List Int} {p : Nat} {due : Int} (h : LexAt w B g len cap zs p due) : Calls Try.prog 21 #[.pointer (some ⟨B, 0, none⟩)] w fun e w' => e = .returned (.int .i64 p) ∧ w' = w := by
  have h1 := h.here
  clear h
  go_enter Try.func21, Try.ntmps21
  go_wp2
  go_ret
  exact ⟨rfl, rfl⟩
theorem due_any {w : World} {B g len cap : Nat} {zs : List Int} {p : Nat} {due : Int} (h : LexAt w B g len cap zs p due) : Calls Try.prog 22 #[.pointer (some ⟨B, 0, none⟩)] w fun e w' => e = .returned (.int .u8 due) ∧ w' = w := by
  have h1 := h.owed
  clear h
  go_enter Try.func22, Try.ntmps22
  go_wp2
  go_ret
  exact ⟨rfl, rfl⟩

/-- A row as a source, later. -/
theorem row_src {w w1 w' : World} {base : Nat} {v : Value} {zs : List Int} {len : Nat} (hl : zs.length = len) (h : Row w1 w.heap.size v zs) (hb : Below w1.heap.size w1 w') (hbs : w1.heap.size ≤ base) : ∃ a c, v = .slice a len c ∧ SrcB w' base a zs := by
  subst hl
  obtain ⟨a, c, rfl, hv⟩ := h.view
  refine ⟨a, c, rfl, ?_⟩
  rcases Nat.eq_zero_or_pos zs.length with h0 | h0
  · exact .inl h0
  · obtain ⟨g, rfl, _, hg, hc⟩ := hv h0
    exact .inr ⟨g, 0, rfl, by omega, fun i hi => by rw [Nat.zero_add, hb.cell (p := ⟨g, i, none⟩) hg]; exact hc i hi⟩

theorem src_later {w w' : World} {a : Option Addr} {zs : List Int} (h : Src w a zs) (hb : Below w.heap.size w w') : Src w' a zs := by
  rcases h with h | ⟨b, off, rfl, hlt, hc⟩
  · exact .inl h
  · exact .inr ⟨b, off, rfl, Nat.lt_of_lt_of_le hlt hb.size, fun i hi => (hb.cell (p := ⟨b, off + i, none⟩) hlt).trans (hc i hi)⟩
theorem srcB_later {w w' : World} {base : Nat} {a : Option Addr} {zs : List Int} (h : SrcB w base a zs) (hb : Below base w w') : SrcB w' base a zs := by
  rcases h with h | ⟨b, off, rfl, hlt, hc⟩
  · exact .inl h
  · exact .inr ⟨b, off, rfl, hlt, fun i hi => (hb.cell (p := ⟨b, off + i, none⟩) hlt).trans (hc i hi)⟩

/-! ### The literals are in order -/
theorem litok_true : LitOK [116, 114, 117, 101] ⟨#[98, 111, 111, 108]⟩ := by
  refine ⟨by decide, 116, [114, 117, 101], rfl, rfl, .inl rfl, fun k => .inl ⟨rfl, ?_⟩⟩
  rcases tailB_cases k with h | h | h | h | h | h <;> rw [h] <;> decide
theorem litok_false : LitOK [102, 97, 108, 115, 101] ⟨#[98, 111, 111, 108]⟩ := by
  refine ⟨by decide, 102, [97, 108, 115, 101], rfl, rfl, .inr (.inl rfl), fun k => .inr (.inl ⟨rfl, ?_⟩)⟩
  rcases tailB_cases k with h | h | h | h | h | h <;> rw [h] <;> decide
theorem litok_null : LitOK [110, 117, 108, 108] ⟨#[110, 117, 108, 108]⟩ := by
  refine ⟨by decide, 110, [117, 108, 108], rfl, rfl, .inr (.inr (.inl rfl)), fun k => .inr (.inr (.inl ⟨rfl, ?_⟩))⟩
  rcases tailB_cases k with h | h | h | h | h | h <;> rw [h] <;> decide

theorem len_digs (zs : List Int) : (digs zs).length ≤ zs.length + 1 := by
  unfold digs
  split <;> simp
theorem len_negB (b : Bool) : (negB b).length ≤ 1 := by cases b <;> decide
theorem len_intB (zs : List Int) : (intB zs).length ≤ zs.length + 1 := by
  unfold intB
  split <;> simp
theorem len_fracB (b : Bool) (zs : List Int) : (fracB b zs).length ≤ zs.length + 2 := by
  have := len_digs zs
  cases b <;> simp [fracB]
  omega
theorem len_expB (k : Int) : (expB k).length ≤ 2 := by
  unfold expB
  (repeat' split) <;> simp
theorem len_xpB (b : Bool) (k : Int) (zs : List Int) : (xpB b k zs).length ≤ zs.length + 3 := by
  have := len_digs zs
  have := len_expB k
  cases b <;> simp [xpB]
  omega

theorem head_build (neg : Bool) (is r : List Int) : ∃ c u, negB neg ++ (intB is ++ r) = c :: u ∧ (c = 45 ∨ (48 ≤ c ∧ c ≤ 57)) := by
  cases neg with
  | true => exact ⟨45, _, rfl, .inl rfl⟩
  | false =>
    unfold intB
    split
    · exact ⟨48, _, rfl, .inr (by decide)⟩
    · exact ⟨_, _, rfl, .inr (by omega)⟩

theorem litok_num (neg : Bool) (is : List Int) (hf : Bool) (fr : List Int) (he : Bool) (k : Int) (ex : List Int) (h1 : is.length ≤ 65536) (h2 : fr.length ≤ 65536) (h3 : ex.length ≤ 65536) :
    LitOK (negB neg ++ intB is ++ fracB hf fr ++ xpB he k ex) ⟨#[110, 117, 109, 98, 101, 114]⟩ := by
  have l1 := len_negB neg
  have l2 := len_intB is
  have l3 := len_fracB hf fr
  have l4 := len_xpB he k ex
  obtain ⟨c, u, hcu, hc⟩ := head_build neg is (fracB hf fr ++ xpB he k ex)
  have e : negB neg ++ intB is ++ fracB hf fr ++ xpB he k ex = negB neg ++ (intB is ++ (fracB hf fr ++ xpB he k ex)) := by simp
  refine ⟨by simp; omega, c, u, by rw [e, hcu], ?_, ?_, fun j => ?_⟩
  · unfold kindB
    rw [if_neg (by omega), if_neg (by omega)]
  · omega
  · refine .inr (.inr (.inr ⟨by omega, by omega, by omega, ?_⟩))
    have hn := num_build neg is hf fr he k ex (tailB j) (tailB_cases j)
    have e2 : (negB neg ++ intB is ++ fracB hf fr ++ xpB he k ex ++ tl (tailB j)).drop 0 = negB neg ++ (intB is ++ (fracB hf fr ++ (xpB he k ex ++ tl (tailB j)))) := by simp
    rw [← e2] at hn
    obtain ⟨p1, p2, p3, q1, q2, q3, q4⟩ := stages hn
    refine ⟨p1, p2, p3, q1, q2, q3, ?_⟩
    rwa [show (negB neg ++ intB is ++ fracB hf fr ++ xpB he k ex).length = 0 + ((negB neg).length + (intB is).length + (fracB hf fr).length + (xpB he k ex).length) by simp; omega]

/-- What is gathered behind k digits of the integer part. -/
def igath (ys zs : List Int) (k : Nat) : List Int := ys ++ (49 + zs.getD 0 0 % 9) :: ((zs.take k).drop 1).map dg
theorem igath_one (ys zs : List Int) {z : Int} (hz : zs.getD 0 0 = z) : ys ++ [49 + z % 9] = igath ys zs 1 := by
  unfold igath
  rw [hz]
  cases zs <;> simp
theorem igath_on {zs : List Int} {k : Nat} {z : Int} (ys : List Int) (hk1 : 1 ≤ k) (hk : k < zs.length) (hz : zs.getD k 0 = z) : igath ys zs k ++ [48 + z % 10] = igath ys zs (k + 1) := by
  unfold igath
  rw [List.take_succ_eq_append_getElem hk, List.drop_append_of_le_length (by simp; omega)]
  have : zs[k] = z := by rw [← hz]; simp [List.getD, hk]
  simp [this, dg]
theorem igath_end {zs : List Int} {k : Nat} (ys : List Int) (hp : 0 < zs.length) (hk : ¬ k < zs.length) : igath ys zs k = ys ++ intB zs := by
  unfold igath intB
  rw [List.take_of_length_le (by omega), if_neg (by omega)]

set_option maxRecDepth 20000 in
set_option maxHeartbeats 1600000 in
theorem lit_walk (which : Int) (neg : Bool) (ai : Option Addr) (li ci : Nat) (zi : List Int) (hf : Bool) (af : Option Addr) (lf cf : Nat) (zf : List Int) (he : Bool) (es : Int) (ae : Option Addr) (le ce : Nat) (ze : List Int) (t : Int) (w : World)
    (h1 : li ≤ 65536) (h2 : lf ≤ 65536) (h3 : le ≤ 65536) (hw0 : 0 ≤ which) (hw1 : which ≤ 255) (hs0 : 0 ≤ es) (hs1 : es ≤ 255) (ht0 : 0 ≤ t) (ht1 : t ≤ 255)
    (si : Src w ai zi) (sf : Src w af zf) (se : Src w ae ze) (ki : zi.length = li) (kf : zf.length = lf) (ke : ze.length = le) (ni : ai = none → li = 0) (nf : af = none → lf = 0) (ne : ae = none → le = 0)
    (bi : ∀ i, 0 ≤ zi.getD i 0 ∧ zi.getD i 0 ≤ 255) (bf : ∀ i, 0 ≤ zf.getD i 0 ∧ zf.getD i 0 ≤ 255) (be : ∀ i, 0 ≤ ze.getD i 0 ∧ ze.getD i 0 ≤ 255) :
    Calls Try.prog 4 #[.int .u8 which, .bool neg, .slice ai li ci, .bool hf, .slice af lf cf, .bool he, .int .u8 es, .slice ae le ce, .int .u8 t] w fun e w' => e = .returned (.bool true) ∧ Below w.heap.size w w' := by
  go_enter Try.func4, Try.ntmps4
  go_wp2_with fail
  refine (bytes_yes which neg ai li ci hf af lf cf he es ae le ce t _ h1 h2 h3).mono ?_
  rintro e w' ⟨rfl, hww⟩
  obtain rfl : w = w' := hww.symm
  go_wp2_with fail
  refine (clone_any ai li ci zi _ si ki ni (by omega)).mono ?_
  rintro e w1 ⟨⟨v1, rfl, r1⟩, b1⟩
  have sf1 : Src w1 af zf := src_later sf b1
  have se1 : Src w1 ae ze := src_later se b1
  clear si sf se ni
  go_wp2_with fail
  refine (clone_any af lf cf zf _ sf1 kf nf (by omega)).mono ?_
  rintro e w2 ⟨⟨v2, rfl, r2⟩, b2⟩
  have se2 : Src w2 ae ze := src_later se1 b2
  clear sf1 se1 nf
  go_wp2_with fail
  refine (clone_any ae le ce ze _ se2 ke ne (by omega)).mono ?_
  rintro e w3 ⟨⟨v3, rfl, r3⟩, b3⟩
  clear se2 ne
  obtain ⟨a1, c1, hv1, s1⟩ := row_src ki r1 (b2.trans (b3.mono b2.size)) (Nat.le_trans b2.size b3.size)
  obtain ⟨a2, c2, hv2, s2⟩ := row_src kf r2 b3 b3.size
  obtain ⟨a3, c3, hv3, s3⟩ := row_src ke r3 (Below.refl _ _) (Nat.le_refl _)
  have HB : Hid (Below w.heap.size w w3) := (b1.trans (b2.mono b1.size)).trans (b3.mono (Nat.le_trans b1.size b2.size))
  rw [hv1, hv2, hv3]
  clear hv1 hv2 hv3 r1 r2 r3 b1 b2 b3
  go_upto_block 0 with fail
  go_cut [19, 20] from 25 (fun s19 s20 wc => ∃ ys want, s20 = .string want ∧ Row wc w3.heap.size s19 ys ∧ Hid (LitOK ys want) ∧ Below w3.heap.size w3 wc ∧ w3.heap.size ≤ wc.heap.size)
  case first =>
    have HN : Hid (Row w3 w3.heap.size (.slice none 0 0) []) := World.ownsRow_nil _ _ _ _
    rcases (show which % 4 = 0 ∨ which % 4 = 1 ∨ which % 4 = 2 ∨ which % 4 = 3 by omega) with hk | hk | hk | hk
    · go_wp2_with (at_builtin; refine wpList_word rfl _ _ rfl w3.heap.size rfl ⟨#[116, 114, 117, 101]⟩ rfl (by decide) (by decide) (Nat.le_refl _) ?_)
      intro v' w' hr hb
      have HR : Hid (Row w' w3.heap.size v' [116, 114, 117, 101]) := hr
      clear hr
      go_wp2
      go_meet
      case rel => exact ⟨_, _, rfl, HR.out, litok_true, hb, hb.size⟩
    · go_wp2_with (at_builtin; refine wpList_word rfl _ _ rfl w3.heap.size rfl ⟨#[102, 97, 108, 115, 101]⟩ rfl (by decide) (by decide) (Nat.le_refl _) ?_)
      intro v' w' hr hb
      have HR : Hid (Row w' w3.heap.size v' [102, 97, 108, 115, 101]) := hr
      clear hr
      go_wp2
      go_meet
      case rel => exact ⟨_, _, rfl, HR.out, litok_false, hb, hb.size⟩
    · go_wp2_with (at_builtin; refine wpList_word rfl _ _ rfl w3.heap.size rfl ⟨#[110, 117, 108, 108]⟩ rfl (by decide) (by decide) (Nat.le_refl _) ?_)
      intro v' w' hr hb
      have HR : Hid (Row w' w3.heap.size v' [110, 117, 108, 108]) := hr
      clear hr
      go_wp2
      go_meet
      case rel => exact ⟨_, _, rfl, HR.out, litok_null, hb, hb.size⟩
    · have HL : Hid (∀ b : Bool, (negB b).length ≤ 1) := len_negB
      go_upto_if 57 with fail
      go_cut [19] from 25 (fun s wc => Row wc w3.heap.size s (negB neg) ∧ Below w3.heap.size w3 wc)
      case first =>
        cases neg with
        | true =>
          go_wp2_with (at_builtin; refine wpList_row rfl _ _ rfl w3.heap.size _ [] rfl (row_alloc HN.out _) ⟨w3.heap.size, 0, none⟩ [45] 1 rfl (one_new _) (by simp) (by simp) ?_)
          intro v' w' hr hb
          have HR : Hid (Row w' w3.heap.size v' (negB true)) := hr
          have hB' := below_alloc (Nat.le_refl _) _ hb
          clear hr hb
          go_wp2
          go_meet
          case rel => exact ⟨HR.out, hB'⟩
        | false =>
          go_wp2
          go_meet
          case rel => exact ⟨HN.out, Below.refl _ _⟩
      case rest =>
        clear HN
        obtain ⟨hr, hbl⟩ := hcut
        obtain ⟨wa, hwa⟩ : ∃ wa, wa = wc := ⟨_, rfl⟩
        subst hwa
        have HRa : Hid (Row wa w3.heap.size u19 (negB neg)) := hr
        have hza := hbl.size
        clear hr
        go_upto_if 63 with fail
        go_cut [19] from 25 (fun s wc => Row wc w3.heap.size s (negB neg ++ intB zi) ∧ Below w3.heap.size w3 wc)
        case first =>
          by_cases hi0 : li = 0
          · have hi0' : ((li : Int) == 0) = true := by simp [hi0]
            have HE : Hid (intB zi = [48]) := show _ = _ by simp [intB, ki, hi0]
            clear hi0
            have hla := HL.out neg
            go_wp2_with (at_builtin; refine wpList_row rfl _ _ rfl w3.heap.size _ (negB neg) rfl (row_alloc HRa.out _) ⟨wa.heap.size, 0, none⟩ [48] 1 rfl (one_new _) (by simp; omega) (by simp; omega) ?_)
            intro v' w' hr hb
            have HR : Hid (Row w' w3.heap.size v' (negB neg ++ intB zi)) := by rw [HE.out]; exact hr
            have hB' := hbl.trans (below_alloc hza _ hb)
            clear hr hb
            go_wp2
            go_meet
            case rel => exact ⟨HR.out, hB'⟩
          · have hi0' : ((li : Int) == 0) = false := by simp; omega
            have hip : 0 < li := by omega
            have KI : Hid (zi.length = li) := ki
            have BI : Hid (∀ i, 0 ≤ zi.getD i 0 ∧ zi.getD i 0 ≤ 255) := bi
            have hla := HL.out neg
            obtain ⟨b, off, ha, hbb, hcs⟩ := (srcB_later s1 hbl).resolve_left (by omega)
            have HC : Hid (∀ i, i < zi.length → wa.cell? ⟨b, off + i, none⟩ = some (.int .u8 (zi.getD i 0))) := hcs
            have hc0 := hcs 0 (by omega)
            obtain ⟨q0, q1⟩ := bi 0
            obtain ⟨z, hz⟩ : ∃ z, zi.getD 0 0 = z := ⟨_, rfl⟩
            rw [hz] at hc0 q0 q1
            have HZ : Hid (zi.getD 0 0 = z) := hz
            subst ha
            clear hi0 ki bi hcs hz s1
            rw [Nat.add_zero] at hc0
            go_wp2_with (at_builtin; refine wpList_row rfl _ _ rfl w3.heap.size _ (negB neg) rfl (row_alloc HRa.out _) ⟨wa.heap.size, 0, none⟩ [49 + z % 9] 1 rfl (one_new _) (by simp; omega) (by simp; omega) ?_)
            intro v' w' hr hb
            have HR : Hid (Row w' w3.heap.size v' (igath (negB neg) zi 1)) := by rw [← igath_one _ _ HZ.out]; exact hr
            have hB' := hbl.trans (below_alloc hza _ hb)
            have hBa : Below w3.heap.size wa w' := below_alloc hza _ hb
            clear hr hb hbl HRa hc0
            go_wp2
            go_loopw [19, 21] (fun t i wr => ∃ k : Nat, 1 ≤ k ∧ k ≤ li ∧ i = .int .i64 k ∧ Hid (Row wr w3.heap.size t (igath (negB neg) zi k)) ∧ Below w3.heap.size w3 wr ∧ Below w3.heap.size wa wr) (fun _ i _ => li - (intOf i).toNat)
            case atStart => exact ⟨1, Nat.le_refl _, hip, rfl, HR.out, hB', hBa⟩
            case round =>
              clear HR hB' hBa
              obtain ⟨k, hk1, hkl, rfl, hr, hB, hBa⟩ := hrel
              have hzr := hB.size
              by_cases hlt : k < li
              · have hltz : k < zi.length := by have := KI.out; omega
                have hcell := (hBa.cell (p := ⟨b, off + k, none⟩) hbb).trans (HC.out k hltz)
                obtain ⟨y0, y1⟩ := BI.out k
                obtain ⟨y, hy⟩ : ∃ y, zi.getD k 0 = y := ⟨_, rfl⟩
                rw [hy] at hcell y0 y1
                have HT : Hid (igath (negB neg) zi k ++ [48 + y % 10] = igath (negB neg) zi (k + 1)) := igath_on _ hk1 hltz hy
                have hlen : (igath (negB neg) zi k).length + 1 ≤ 1048577 := by simp [igath]; omega
                clear hy hltz
                go_wp2_with (at_builtin; refine wpList_row rfl _ _ rfl w3.heap.size _ _ rfl (row_alloc hr.out _) ⟨wr.heap.size, 0, none⟩ [48 + y % 10] 1 rfl (one_new _) hlen (by simp; omega) ?_)
                intro v' w' hr' hb'
                have HR' : Hid (Row w' w3.heap.size v' (igath (negB neg) zi (k + 1))) := by rw [← HT.out]; exact hr'
                have hB2 := hB.trans (below_alloc hzr _ hb')
                have hBa2 := hBa.trans (below_alloc hzr _ hb')
                clear hr' hb' hr hcell
                go_wp2
                go_roundw
                case rel => exact ⟨k + 1, by omega, by omega, by go_num, HR'.out, hB2, hBa2⟩
                case measure => simp [intOf]; omega
              · have HE : Hid (igath (negB neg) zi k = negB neg ++ intB zi) := igath_end _ (by have := KI.out; omega) (by have := KI.out; omega)
                go_wp2
                go_meet
                case rel => rw [← HE.out]; exact ⟨hr.out, hB⟩
        case rest =>
          clear HRa hbl hza
          obtain ⟨hr, hbl⟩ := hcut
          obtain ⟨wb, hwb⟩ : ∃ wb, wb = wc := ⟨_, rfl⟩
          subst hwb
          have HRb := hid_of hr
          have hzb := hbl.size
          clear hr
          have l1 := HL.out neg
          have l2 : (intB zi).length ≤ 65537 := by have := len_intB zi; omega
          go_upto_if 90 with fail
          go_cut [19] from 25 (fun s wc => Row wc w3.heap.size s (negB neg ++ intB zi ++ fracB hf zf) ∧ Below w3.heap.size w3 wc)
          case first =>
            cases hf with
            | true =>
              go_wp2_with (at_builtin; refine wpList_row rfl _ _ rfl w3.heap.size _ (negB neg ++ intB zi) rfl (row_alloc HRb.out _) ⟨wb.heap.size, 0, none⟩ [46] 1 rfl (one_new _) (by simp; omega) (by simp; omega) ?_)
              intro v' w' hr hb
              have hB' := hbl.trans (below_alloc hzb _ hb)
              have had := appDigits_any v' _ a2 lf c2 zf w3.heap.size w' hr hB'.size (srcB_later s2 hB') kf bf (by simp; omega)
              clear hr hb
              go_wp2_with fail
              refine had.mono ?_
              rintro e w'' ⟨⟨v'', rfl, hr⟩, hb⟩
              have HR : Hid (Row w'' w3.heap.size v'' (negB neg ++ intB zi ++ fracB true zf)) := by
                rw [show negB neg ++ intB zi ++ fracB true zf = negB neg ++ intB zi ++ [46] ++ digs zf by simp [fracB]]
                exact hid_of (by simpa using hr)
              have hB2 := hB'.trans hb
              clear hr hb had
              go_wp2
              go_meet
              case rel => exact ⟨HR.out, hB2⟩
            | false =>
              have HE : Hid (negB neg ++ intB zi ++ fracB false zf = negB neg ++ intB zi) := show _ = _ by simp [fracB]
              go_wp2
              go_meet
              case rel => rw [HE.out]; exact ⟨HRb.out, hbl⟩
          case rest =>
            clear HRb hbl hzb
            obtain ⟨hr, hbl⟩ := hcut
            obtain ⟨wd, hwd⟩ : ∃ wd, wd = wc := ⟨_, rfl⟩
            subst hwd
            have HLit := hid_of (litok_num neg zi hf zf he es ze (by omega) (by omega) (by omega))
            have l3 : (fracB hf zf).length ≤ 65538 := by have := len_fracB hf zf; omega
            have l4 := len_expB es
            cases he with
            | true =>
              have hax := appExp_any _ _ es w3.heap.size wd hs0 hs1 hr hbl.size (by simp; omega)
              clear hr
              go_wp2_with fail
              refine hax.mono ?_
              rintro e w' ⟨⟨v', rfl, hr⟩, hb⟩
              have hB' := hbl.trans hb
              have had := appDigits_any v' _ a3 le c3 ze w3.heap.size w' hr hB'.size (srcB_later s3 hB') ke be (by simp; omega)
              clear hr hb hax
              go_wp2_with fail
              refine had.mono ?_
              rintro e w'' ⟨⟨v'', rfl, hr⟩, hb⟩
              have HR : Hid (Row w'' w3.heap.size v'' (negB neg ++ intB zi ++ fracB hf zf ++ xpB true es ze)) := by
                rw [show negB neg ++ intB zi ++ fracB hf zf ++ xpB true es ze = negB neg ++ intB zi ++ fracB hf zf ++ expB es ++ digs ze by simp [xpB]]
                exact hid_of (by simpa using hr)
              have hB2 := hB'.trans hb
              clear hr hb had
              go_wp2
              go_meet
              case rel => exact ⟨_, _, rfl, HR.out, HLit.out, hB2, hB2.size⟩
            | false =>
              have HR := hid_of hr
              have HE : Hid (negB neg ++ intB zi ++ fracB hf zf ++ xpB false es ze = negB neg ++ intB zi ++ fracB hf zf) := show _ = _ by simp [xpB]
              clear hr
              go_wp2
              go_meet
              case rel => exact ⟨_, _, rfl, by rw [HE.out]; exact HR.out, HLit.out, hbl, hbl.size⟩
  case rest =>
    clear s1 s2 s3 ki kf ke bi bf be
    obtain ⟨ys, want, rfl, hrow, hok, hbl, hsz⟩ := hcut
    obtain ⟨wl, hwl⟩ : ∃ wl, wl = wc := ⟨_, rfl⟩
    subst hwl
    have hlen : ys.length ≤ 1048576 := hok.out.1
    have hpos : 0 < ys.length := by obtain ⟨_, cc, rr, hys, _⟩ := hok.out; rw [hys]; simp
    obtain ⟨gl, cl, hvl, _, _, hgl1, hgl2, hglc⟩ := view_at (w := w3) rfl hpos hrow
    rw [hvl]
    have hsrc : Src wl (some ⟨gl, 0, none⟩) ys := .inr ⟨gl, 0, rfl, hgl2, fun i hi => by rw [Nat.zero_add]; exact hglc i hi⟩
    have HB2 : Hid (Below w.heap.size w wl) := HB.out.trans (hbl.mono HB.out.size)
    clear hvl hrow hglc HB hbl
    go_wp2_with fail
    refine (clone_any _ ys.length cl ys _ hsrc rfl (fun h => by cases h) (by omega)).mono ?_
    rintro e w4 ⟨⟨v4, rfl, r4⟩, b4⟩
    clear hsrc
    go_wp2_with fail
    refine (tail_any t ht0 ht1 _).mono ?_
    rintro e w5 ⟨rfl, hww⟩
    obtain rfl : w4 = w5 := hww.symm
    have HR4 : Hid (Row w4 wl.heap.size v4 ys) := r4
    have hz4 := b4.size
    clear r4
    go_upto_if 121 with fail
    go_cut [22] from 25 (fun s22 wc => Row wc wl.heap.size s22 (ys ++ tl (tailB t)) ∧ Below wl.heap.size wl wc)
    case first =>
      by_cases htt : tailB t = 0
      · have hne : (tailB t != 0) = false := by rw [htt]; rfl
        have HE : Hid (ys ++ tl (tailB t) = ys) := show _ = _ by rw [htt]; simp [tl]
        clear htt
        go_wp2
        go_meet
        case rel => rw [HE.out]; exact ⟨HR4.out, b4⟩
      · have hne : (tailB t != 0) = true := by simpa using htt
        have HE : Hid (tl (tailB t) = [tailB t]) := show _ = _ by simp [tl, htt]
        clear htt
        go_wp2_with (at_builtin; refine wpList_row rfl _ _ rfl wl.heap.size _ ys rfl (row_alloc HR4.out _) ⟨w4.heap.size, 0, none⟩ [tailB t] 1 rfl (one_new _) (by simp; omega) (by simp; omega) ?_)
        intro v' w' hr hb
        have HR' : Hid (Row w' wl.heap.size v' (ys ++ tl (tailB t))) := by rw [HE.out]; exact hr
        have hB' : Below wl.heap.size wl w' := b4.trans (below_alloc hz4 _ hb)
        clear hr hb
        go_wp2
        go_meet
        case rel => exact ⟨HR'.out, hB'⟩
    case rest =>
      obtain ⟨hr5, hb5⟩ := hcut
      obtain ⟨wm, hwm⟩ : ∃ wm, wm = wc := ⟨_, rfl⟩
      subst hwm
      clear HR4 b4 hz4
      obtain ⟨zt, hzt⟩ : ∃ zt, zt = ys ++ tl (tailB t) := ⟨_, rfl⟩
      rw [← hzt] at hr5
      have HZ : Hid (zt = ys ++ tl (tailB t)) := hzt
      clear hzt
      have hzl : zt.length ≤ 1048577 := by rw [HZ.out]; simp [tl]; split <;> simp <;> omega
      have hzp : 0 < zt.length := by rw [HZ.out]; simp; omega
      obtain ⟨g5, c5, hv5, _, _, hg51, hg52, hgc5⟩ := view_at (w := wl) rfl hzp hr5
      have hx := lex_new (cap := c5) (p := 0) hg52 rfl hgc5 (Nat.zero_le _) hzl
      have h0 := hgc5 0 hzp
      rw [hv5]
      obtain ⟨_, cc, rr, hys, hkind, hcc, hlit⟩ := hok.out
      have e0 : zt.getD 0 0 = cc := by rw [HZ.out, hys]; rfl
      rw [e0] at h0
      have hla := hlit t
      rw [← HZ.out] at hla
      have HK : Hid (kindB cc = want) := hkind
      have HB6 : Hid (Below w.heap.size w wm) := HB2.out.trans (hb5.mono HB2.out.size)
      have hz6 : w.heap.size ≤ wm.heap.size := HB6.out.size
      clear hv5 hr5 hgc5 hys hkind e0 hlit hok hb5
      go_wp2_with fail
      refine (newlexer_any (some ⟨g5, 0, none⟩) zt.length c5 _).mono ?_
      rintro e w7 ⟨rfl, hww7⟩
      have h07 : w7.cell? ⟨g5, 0, none⟩ = some (.int .u8 cc) := by rw [hww7, World.cell?_alloc_past _ _ _ hg52]; exact h0
      rw [← hww7] at hx
      have HB7 : Hid (Below w.heap.size w w7) := by rw [hww7]; exact HB6.out.alloc hz6 _
      clear hww7 h0 HB6
      have hzl3 := zzliteral_any hx hla
      go_wp2_with fail
      refine hzl3.mono ?_
      rintro e w8 ⟨rfl, hy, hb8⟩
      clear hzl3 hx hla
      have h08 : w8.cell? ⟨g5, 0, none⟩ = some (.int .u8 cc) := (hb8.cell (p := ⟨g5, 0, none⟩) hg52).trans h07
      have HB8 : Hid (Below w.heap.size w w8) := HB7.out.trans (hb8.mono hz6)
      have ca := at_any hy
      have cd := due_any hy
      clear hy hb8 h07 HB7
      go_wp2_with fail
      refine ca.mono ?_
      rintro e w9 ⟨rfl, hww9⟩
      obtain rfl : w8 = w9 := hww9.symm
      clear ca
      go_wp2_with fail
      refine cd.mono ?_
      rintro e w9 ⟨rfl, hww9⟩
      obtain rfl : w8 = w9 := hww9.symm
      clear cd
      go_wp2_with fail
      refine (kind_any cc _ hcc).mono ?_
      rintro e w9 ⟨rfl, hww9⟩
      obtain rfl : w8 = w9 := hww9.symm
      rw [HK.out]
      go_wp2
      go_ret
      exact ⟨rfl, HB8.out⟩
end Go.Proofs.Qxb6003361a.Lit
