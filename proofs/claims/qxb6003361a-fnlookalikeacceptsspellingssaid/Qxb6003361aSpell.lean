/-
  FnLookalikeAcceptsSpellings: the callees' walks, the plain facts.
-/
import Derived.Test.Qxb6003361aLook
import Derived.Test.Qxb6003361aMem
import Derived.Laws.BytesArg
namespace Go.Proofs.Qxb6003361a
open Go.RowKit

def other (c : Int) : Int := if 65 ≤ c ∧ c ≤ 90 then c + 32 else if 97 ≤ c ∧ c ≤ 122 then c - 32 else if c = 45 then 95 else if c = 95 then 45 else c
def spell (c : Int) : Bool := decide ((65 ≤ c ∧ c ≤ 90) ∨ (97 ≤ c ∧ c ≤ 122) ∨ c = 45 ∨ c = 95)

theorem fold_other (c : Int) : fold (other c) = fold c := by
  unfold fold other
  (repeat' split) <;> omega
theorem other_byte {c : Int} (h0 : 0 ≤ c) (h1 : c ≤ 255) : 0 ≤ other c ∧ other c ≤ 255 := by
  unfold other
  (repeat' split) <;> omega
theorem fold_part {c d : Int} (hs : spell d = false) (hne : ¬ d = c) : ¬ fold d = fold c := by
  unfold fold
  have : ¬ ((65 ≤ d ∧ d ≤ 90) ∨ (97 ≤ d ∧ d ≤ 122) ∨ d = 45 ∨ d = 95) := by simpa [spell] using hs
  (repeat' split) <;> omega

theorem other_any (c : Int) (h0 : 0 ≤ c) (h1 : c ≤ 255) (w : World) :
    Calls Try.prog 33 #[.int .u8 c] w fun e w' => e = .returned (.int .u8 (other c)) ∧ w' = w := by
  go_enter Try.func33, Try.ntmps33
  go_wp2
  all_goals (go_ret; refine ⟨ret_int ?_, rfl⟩; unfold other)
  all_goals (try simp only [beq_iff_eq, beq_eq_false_iff_ne] at *)
  all_goals ((repeat' split) <;> omega)

theorem spell_any (c : Int) (h0 : 0 ≤ c) (h1 : c ≤ 255) (w : World) :
    Calls Try.prog 34 #[.int .u8 c] w fun e w' => e = .returned (.bool (spell c)) ∧ w' = w := by
  by_cases a1 : 65 ≤ c
  · by_cases a2 : c ≤ 90
    · go_enter Try.func34, Try.ntmps34
      go_wp2
      go_ret
      exact ⟨ret_bool (by simp [spell]; omega), rfl⟩
    · by_cases a3 : 97 ≤ c
      · by_cases a4 : c ≤ 122
        · go_enter Try.func34, Try.ntmps34
          go_wp2
          go_ret
          exact ⟨ret_bool (by simp [spell]; omega), rfl⟩
        · have e1 : (c == 45) = false := by simp; omega
          have e2 : (c == 95) = false := by simp; omega
          go_enter Try.func34, Try.ntmps34
          go_wp2
          go_ret
          exact ⟨ret_bool (by simp [spell]; omega), rfl⟩
      · have e1 : (c == 45) = false := by simp; omega
        by_cases a5 : c = 95
        · subst a5
          go_enter Try.func34, Try.ntmps34
          go_wp2
          go_ret
          exact ⟨ret_bool (by simp [spell]), rfl⟩
        · have e2 : (c == 95) = false := by simp; omega
          go_enter Try.func34, Try.ntmps34
          go_wp2
          go_ret
          exact ⟨ret_bool (by simp [spell]; omega), rfl⟩
  · have a3 : ¬ 97 ≤ c := by omega
    have e2 : (c == 95) = false := by simp; omega
    by_cases a5 : c = 45
    · subst a5
      go_enter Try.func34, Try.ntmps34
      go_wp2
      go_ret
      exact ⟨ret_bool (by simp [spell]), rfl⟩
    · have e1 : (c == 45) = false := by simp; omega
      go_enter Try.func34, Try.ntmps34
      go_wp2
      go_ret
      exact ⟨ret_bool (by simp [spell]; omega), rfl⟩

theorem bytes2_any (s : ByteArray) (a : Option Addr) (len cap : Nat) (pos d : Int) (w : World) (h1 : s.size ≤ 65536) (h2 : len ≤ 65536) :
    Calls Try.prog 32 #[.string s, .slice a len cap, .int .i64 pos, .int .u8 d] w fun e w' => e = .returned (.bool true) ∧ w' = w := by
  go_enter Try.func32, Try.ntmps32
  go_wp2
  go_ret
  exact ⟨rfl, rfl⟩

/-- Folded alike, byte by byte. -/
theorem look_nums (s : ByteArray) (ns : List Int) (hl : ns.length = s.size) (hb : ∀ c ∈ ns, 0 ≤ c ∧ c ≤ 255) (h : ∀ j (hj : j < s.size), fold (ns.getD j 0) = fold (s[j].toNat : Int)) : look (strOfNums ns) s = true := by
  refine look_true (by rw [strOfNums_size, hl]) fun j hj => ?_
  rw [strOfNums_size, hl] at hj
  rw [folded_get s j hj, ← h j hj]
  have hjn : j < ns.length := by omega
  have hm := hb (ns[j]) (List.getElem_mem hjn)
  simp [folded, strOfNums_data, List.getElem?_eq_getElem hjn]
  congr 1
  omega
theorem folded_nums (ns : List Int) (j : Nat) : (folded (strOfNums ns))[j]? = ns[j]?.map fun n => fold ((UInt8.ofNat n.toNat).toNat : Int) := by
  simp only [folded, strOfNums_data, List.map_map, List.getElem?_map]
  rfl
theorem look_part (s : ByteArray) (ns : List Int) (k : Nat) (d : Int) (hd0 : 0 ≤ d) (hd1 : d ≤ 255) (hl : ns.length = s.size) (hk : k < s.size) (h : ¬ fold d = fold (s[k].toNat : Int)) : look (strOfNums (ns.set k d)) s = false := by
  refine look_at k ?_
  have hkn : k < ns.length := by omega
  rw [folded_get s k hk, folded_nums, List.getElem?_set_self hkn]
  intro e
  apply h
  simp only [Option.map_some, Option.some.injEq] at e
  rw [← e]
  congr 1
  simp
  omega
end Go.Proofs.Qxb6003361a
