/-
  Appending to a row of the call's own; zzAppendDigits, zzAppendExponent, zzTail: the walks.
-/
import Derived.Test.Qxb6003361aMem
import Derived.Deep.AppendSrc
import Derived.Deep.Light
namespace Go.Proofs.Qxb6003361a.Lit
open Go.RowKit

/-- 'append(v, x...)', v a row of the call's own, x the bytes 'news' in memory. -/
theorem wpList_row {w : World} {ops : Array Oper} {rest : List Oper} {o : Oper} {a : Act} {Q : Exit → Act → World → Prop} (hgd : o.guard = none) (s x : Operand)
    (ho : o.op = .call { callee := .builtin .append, args := #[s, x], argTypes := #[22, 22] }) (base : Nat) (v : Value) (ys : List Int) (hs : a.eval s = v) (hown : Row w base v ys)
    (ad : Addr) (news : List Int) (c : Nat) (hx : a.eval x = .slice (some ad) news.length c) (hnews : ∀ j u, news[j]? = some u → w.cell? (ad.add j) = some (.int .u8 u)) (hsm : ys.length + news.length ≤ 1048577) (hbase : base ≤ w.heap.size)
    (h : ∀ v' w', Row w' base v' (ys ++ news) → Below base w w' → wpList Try.prog ops Q rest (a.put o.dst v') w') : wpList Try.prog ops Q (o :: rest) a w := by
  obtain ⟨i0, hi, hz0, hz1, hz2⟩ := info_parts info5
  refine wpList_append_own (P := Try.prog) w hgd s x 22 ho base 5 i0 (.int .u8 0) 1 1 Try.underlying22 hi hz0 hz1 hz2 rfl (by decide) v ys.length (ys.map (Value.int .u8)) hs hown ad news.length c (news.map (Value.int .u8)) hx (by simp) ?_ (ints_oneCell _ _) (by unfold maxLen; omega) (by omega) hbase ?_
  · intro j u hj
    simp only [List.getElem?_map, Option.map_eq_some_iff] at hj
    obtain ⟨z, hz, rfl⟩ := hj
    exact hnews j z hz
  · intro v' w' hown' hg _
    refine h v' w' ?_ ((Below.refl base w).grown hg hbase fun k hk => (World.ownsRow.lt hown k hk).1)
    unfold Row
    rw [List.length_append, List.map_append]
    exact hown'

/-- 'append(nil, s...)', s a text that is not empty. -/
theorem wpList_word {w : World} {ops : Array Oper} {rest : List Oper} {o : Oper} {a : Act} {Q : Exit → Act → World → Prop} (hgd : o.guard = none) (s x : Operand)
    (ho : o.op = .call { callee := .builtin .append, args := #[s, x], argTypes := #[22, 9] }) (base : Nat) (hs : a.eval s = .slice none 0 0) (b : ByteArray) (hx : a.eval x = .string b)
    (hp : 0 < b.size) (hsm : b.size ≤ 8) (hbase : base ≤ w.heap.size)
    (h : ∀ v' w', Row w' base v' (b.data.toList.map fun c => (c.toNat : Int)) → Below base w w' → wpList Try.prog ops Q rest (a.put o.dst v') w') : wpList Try.prog ops Q (o :: rest) a w := by
  obtain ⟨i0, hi, hz0, hz1, hz2⟩ := info_parts info5
  have hsrc : Go.Src Try.prog i0.size 9 (.string b) b.size (byteCells b) w := by rw [hz1]; exact Go.Src.ofString w Try.underlying9 b
  have hrun := run_append_grow_src (P := Try.prog) w 22 9 o.type 5 i0 (.int .u8 0) Try.underlying22 hi hz0 none 0 0 [] (by simp [Builtin.firstCells]) (.string b) b.size (byteCells b) hsrc (by omega) (by omega) (by
    rw [hz2]
    have : Builtin.nextslicecap (0 + b.size) 0 ≤ 8 := by
      unfold Builtin.nextslicecap
      simp
      rw [if_pos hp]
      omega
    omega)
  refine wpList_plain hgd fun K hK => ?_
  unfold Oper.wp execOp
  simp only [ho, resolve, invoke, builtin, Sem.run_bind, Sem.run_pure, Result.andThen_ok, List.map_toArray, List.map_cons, List.map_nil, hs, hx, hrun]
  refine hK _ _ (h _ _ ?_ ?_)
  · have e1 : (b.data.toList.map fun c => (c.toNat : Int)).length = b.size := by simp
    have e2 : (b.data.toList.map fun c => (c.toNat : Int)).map (Value.int .u8) = byteCells b := by simp [byteCells]
    have hge := grownCap_ge w (0 + b.size) 0 5
    have hle := grownCap_le_maxLen w (0 + b.size) 0 5 (by unfold maxLen; omega)
    unfold Row
    rw [e1, e2]
    refine ⟨by rw [byteCells_length, Nat.mul_one], .inr ⟨w.heap.size, grownCap w (0 + b.size) 0 5, _, by rw [Nat.zero_add], hbase, heap_alloc_new w.drew _, by omega, hle, ?_, ?_⟩⟩
    · rw [Nat.zero_add] at hge ⊢
      simp [size_zeroCells, byteCells_length, Value.cells]
      omega
    · rw [Array.toList_append, List.nil_append]
      exact List.take_left' (by rw [byteCells_length, Nat.mul_one])
  · exact ((Below.refl base w).drew).alloc hbase _

theorem ret_int {k : IntKind} {a b : Int} (h : a = b) : Ending.returned (.int k a) = .returned (.int k b) := by rw [h]

/-- The digits that zzAppendDigits writes. -/
def dg (d : Int) : Int := 48 + d % 10
def digs (zs : List Int) : List Int := if zs.length = 0 then [48] else zs.map dg

/-- What zzAppendExponent writes. -/
def expB (k : Int) : List Int :=
  if k % 6 = 0 then [101] else if k % 6 = 1 then [101, 43] else if k % 6 = 2 then [101, 45] else if k % 6 = 3 then [69] else if k % 6 = 4 then [69, 43] else [69, 45]

/-- What zzTail gives. -/
def tailB (k : Int) : Int := if k % 6 = 0 then 0 else if k % 6 = 1 then 44 else if k % 6 = 2 then 93 else if k % 6 = 3 then 125 else if k % 6 = 4 then 32 else 10

theorem one_new {w : World} (c : Int) : ∀ j u, [c][j]? = some u → (w.alloc (.cells #[.int .u8 c] 5)).cell? ((⟨w.heap.size, 0, none⟩ : Addr).add j) = some (.int .u8 u) := by
  intro j u hj
  match j, hj with
  | 0, hj => simp at hj; subst hj; simp [Addr.add, go_sem]
theorem two_new {w : World} (c d : Int) : ∀ j u, [c, d][j]? = some u → (w.alloc (.cells #[.int .u8 c, .int .u8 d] 5)).cell? ((⟨w.heap.size, 0, none⟩ : Addr).add j) = some (.int .u8 u) := by
  intro j u hj
  match j, hj with
  | 0, hj => simp at hj; subst hj; simp [Addr.add, go_sem]
  | 1, hj => simp at hj; subst hj; simp [Addr.add, go_sem]
theorem row_alloc {w : World} {base : Nat} {v : Value} {ys : List Int} (h : Row w base v ys) (o : Obj) : Row (w.alloc o) base v ys := World.ownsRow.alloc h o
theorem below_alloc {w w' : World} {base : Nat} (hb : base ≤ w.heap.size) (o : Obj) (h : Below base (w.alloc o) w') : Below base w w' := ((Below.refl base w).alloc hb o).trans h

set_option maxHeartbeats 800000 in
theorem tail_any (k : Int) (h0 : 0 ≤ k) (h1 : k ≤ 255) (w : World) : Calls Try.prog 18 #[.int .u8 k] w fun e w' => e = .returned (.int .u8 (tailB k)) ∧ w' = w := by
  go_enter Try.func18, Try.ntmps18
  go_wp2
  all_goals (go_ret; refine ⟨ret_int ?_, rfl⟩)
  all_goals simp only [beq_iff_eq, beq_eq_false_iff_ne] at *
  all_goals go_light
  all_goals (unfold tailB; (repeat' split) <;> omega)

set_option maxHeartbeats 800000 in
theorem appExp_any (v : Value) (ys : List Int) (k : Int) (base : Nat) (w : World) (h0 : 0 ≤ k) (h1 : k ≤ 255) (hrow : Row w base v ys) (hbase : base ≤ w.heap.size) (hm : ys.length + 2 ≤ 1048577) :
    Calls Try.prog 17 #[v, .int .u8 k] w fun e w' => (∃ v', e = .returned v' ∧ Row w' base v' (ys ++ expB k)) ∧ Below base w w' := by
  have HR : Hid (Row w base v ys) := hrow
  clear hrow
  rcases (show k % 6 = 0 ∨ k % 6 = 1 ∨ k % 6 = 2 ∨ k % 6 = 3 ∨ k % 6 = 4 ∨ k % 6 = 5 by omega) with hk | hk | hk | hk | hk | hk
  · have HE : Hid (expB k = [101]) := by simp [expB, hk, Hid]
    go_enter Try.func17, Try.ntmps17
    go_wp2_with (at_builtin; refine wpList_row rfl _ _ rfl base _ ys rfl (row_alloc HR.out _) ⟨w.heap.size, 0, none⟩ [101] 1 rfl (one_new _) (by simp; omega) (by simp; omega) ?_)
    intro v' w' hr hb
    go_wp2
    go_ret
    exact ⟨⟨_, rfl, by rw [HE.out]; exact hr⟩, below_alloc hbase _ hb⟩
  · have HE : Hid (expB k = [101, 43]) := by simp [expB, hk, Hid]
    go_enter Try.func17, Try.ntmps17
    go_wp2_with (at_builtin; refine wpList_row rfl _ _ rfl base _ ys rfl (row_alloc HR.out _) ⟨w.heap.size, 0, none⟩ [101, 43] 2 rfl (two_new _ _) (by simp; omega) (by simp; omega) ?_)
    intro v' w' hr hb
    go_wp2
    go_ret
    exact ⟨⟨_, rfl, by rw [HE.out]; exact hr⟩, below_alloc hbase _ hb⟩
  · have HE : Hid (expB k = [101, 45]) := by simp [expB, hk, Hid]
    go_enter Try.func17, Try.ntmps17
    go_wp2_with (at_builtin; refine wpList_row rfl _ _ rfl base _ ys rfl (row_alloc HR.out _) ⟨w.heap.size, 0, none⟩ [101, 45] 2 rfl (two_new _ _) (by simp; omega) (by simp; omega) ?_)
    intro v' w' hr hb
    go_wp2
    go_ret
    exact ⟨⟨_, rfl, by rw [HE.out]; exact hr⟩, below_alloc hbase _ hb⟩
  · have HE : Hid (expB k = [69]) := by simp [expB, hk, Hid]
    go_enter Try.func17, Try.ntmps17
    go_wp2_with (at_builtin; refine wpList_row rfl _ _ rfl base _ ys rfl (row_alloc HR.out _) ⟨w.heap.size, 0, none⟩ [69] 1 rfl (one_new _) (by simp; omega) (by simp; omega) ?_)
    intro v' w' hr hb
    go_wp2
    go_ret
    exact ⟨⟨_, rfl, by rw [HE.out]; exact hr⟩, below_alloc hbase _ hb⟩
  · have HE : Hid (expB k = [69, 43]) := by simp [expB, hk, Hid]
    go_enter Try.func17, Try.ntmps17
    go_wp2_with (at_builtin; refine wpList_row rfl _ _ rfl base _ ys rfl (row_alloc HR.out _) ⟨w.heap.size, 0, none⟩ [69, 43] 2 rfl (two_new _ _) (by simp; omega) (by simp; omega) ?_)
    intro v' w' hr hb
    go_wp2
    go_ret
    exact ⟨⟨_, rfl, by rw [HE.out]; exact hr⟩, below_alloc hbase _ hb⟩
  · have HE : Hid (expB k = [69, 45]) := by simp [expB, hk, Hid]
    go_enter Try.func17, Try.ntmps17
    go_wp2_with (at_builtin; refine wpList_row rfl _ _ rfl base _ ys rfl (row_alloc HR.out _) ⟨w.heap.size, 0, none⟩ [69, 45] 2 rfl (two_new _ _) (by simp; omega) (by simp; omega) ?_)
    intro v' w' hr hb
    go_wp2
    go_ret
    exact ⟨⟨_, rfl, by rw [HE.out]; exact hr⟩, below_alloc hbase _ hb⟩

/-- The digits' source lies below the row's own blocks. -/
def SrcB (w : World) (base : Nat) (a : Option Addr) (zs : List Int) : Prop :=
  zs.length = 0 ∨ ∃ b off, a = some ⟨b, off, none⟩ ∧ b < base ∧ ∀ i, i < zs.length → w.cell? ⟨b, off + i, none⟩ = some (.int .u8 (zs.getD i 0))

/-- What is gathered behind k digits. -/
def gath (ys zs : List Int) (k : Nat) : List Int := ys ++ (zs.take k).map dg

theorem take_dg {zs : List Int} {k : Nat} {z : Int} (ys : List Int) (hk : k < zs.length) (hz : zs.getD k 0 = z) : gath ys zs k ++ [48 + z % 10] = gath ys zs (k + 1) := by
  unfold gath
  rw [List.take_succ_eq_append_getElem hk]
  have : zs[k] = z := by rw [← hz]; simp [List.getD, hk]
  simp [this, dg]

set_option maxHeartbeats 800000 in
theorem appDigits_any (v : Value) (ys : List Int) (a : Option Addr) (len cap : Nat) (zs : List Int) (base : Nat) (w : World) (hrow : Row w base v ys) (hbase : base ≤ w.heap.size) (hs : SrcB w base a zs) (hl : zs.length = len)
    (hb : ∀ i, 0 ≤ zs.getD i 0 ∧ zs.getD i 0 ≤ 255) (hm : ys.length + len + 1 ≤ 1048577) :
    Calls Try.prog 16 #[v, .slice a len cap] w fun e w' => (∃ v', e = .returned v' ∧ Row w' base v' (ys ++ digs zs)) ∧ Below base w w' := by
  have HR : Hid (Row w base v ys) := hrow
  have HS : Hid (SrcB w base a zs) := hs
  have HL : Hid (zs.length = len) := hl
  have HB : Hid (∀ i, 0 ≤ zs.getD i 0 ∧ zs.getD i 0 ≤ 255) := hb
  clear hrow hs hl hb
  by_cases h0 : len = 0
  · subst h0
    have HE : Hid (digs zs = [48]) := by have := HL.out; simp [digs, this, Hid]
    go_enter Try.func16, Try.ntmps16
    go_wp2_with (at_builtin; refine wpList_row rfl _ _ rfl base _ ys rfl (row_alloc HR.out _) ⟨w.heap.size, 0, none⟩ [48] 1 rfl (one_new _) (by simp; omega) (by simp; omega) ?_)
    intro v' w' hr hb
    go_wp2
    go_ret
    exact ⟨⟨_, rfl, by rw [HE.out]; exact hr⟩, below_alloc hbase _ hb⟩
  · have h0' : ((len : Int) == 0) = false := by simp; omega
    have hpos : 0 < len := by omega
    clear h0
    go_enter Try.func16, Try.ntmps16
    go_wp2
    go_loopw [0, 5] (fun t i wr => ∃ k : Nat, k ≤ len ∧ i = .int .i64 k ∧ Hid (Row wr base t (gath ys zs k)) ∧ Below base w wr ∧ base ≤ wr.heap.size) (fun _ i _ => len - (intOf i).toNat)
    case atStart => exact ⟨0, Nat.zero_le _, rfl, show Row _ _ _ _ by simpa [gath] using HR.out, Below.refl _ _, hbase⟩
    case round =>
      obtain ⟨k, hk, rfl, hr, hbl, hbs⟩ := hrel
      by_cases hlt : k < len
      · have hltz : k < zs.length := by have := HL.out; omega
        obtain ⟨b, off, ha, hbb, hc⟩ := HS.out.resolve_left (by omega)
        subst ha
        obtain ⟨q0, q1⟩ := HB.out k
        have hcell := (hbl.cell (p := ⟨b, off + k, none⟩) hbb).trans (hc k hltz)
        obtain ⟨z, hz⟩ : ∃ z, zs.getD k 0 = z := ⟨_, rfl⟩
        rw [hz] at hcell q0 q1
        have HZ : Hid (zs.getD k 0 = z) := hz
        have hlen : (gath ys zs k).length + 1 ≤ 1048577 := by simp [gath]; omega
        have HT : Hid (gath ys zs k ++ [48 + z % 10] = gath ys zs (k + 1)) := take_dg ys hltz HZ.out
        clear hc hz hltz
        go_wp2_with (at_builtin; refine wpList_row rfl _ _ rfl base _ _ rfl (row_alloc hr.out _) ⟨wr.heap.size, 0, none⟩ [48 + z % 10] 1 rfl (one_new _) hlen (by simp; omega) ?_)
        intro v' w' hr' hb'
        have HR' : Hid (Row w' base v' (gath ys zs (k + 1))) := by rw [← HT.out]; exact hr'
        have hB' : Below base w w' := hbl.trans (below_alloc hbs _ hb')
        have hbs' : base ≤ w'.heap.size := by have := hb'.size; simp at this; omega
        clear hr' hb' hr hcell hbl
        go_wp2
        go_roundw
        case rel => exact ⟨k + 1, by omega, by go_num, HR'.out, hB', hbs'⟩
        case measure => simp [intOf]; omega
      · have HE : Hid (gath ys zs k = ys ++ digs zs) := show _ = _ by
          have := HL.out
          rw [gath, List.take_of_length_le (by omega), digs, if_neg (by omega)]
        go_wp2
        go_ret
        exact ⟨⟨_, rfl, by rw [← HE.out]; exact hr.out⟩, hbl⟩
end Go.Proofs.Qxb6003361a.Lit
