/-
  The plain law of the borrow: the bit formula of FnUint128CmpMatchesSubtraction is the borrow of the subtraction.
-/
import Derived.Test.Qxb6602829aCmp
import Derived.Laws.BitsAllLaws
namespace Go.Proofs.Qxb6602829a
open Go.RowKit

/-- The top bit of a word. -/
theorem top_eq (n : Nat) (h : n < 18446744073709551616) : n / 9223372036854775808 = if n.testBit 63 then 1 else 0 := by
  rw [Nat.testBit_eq_decide_div_mod_eq]
  have e : (2 : Nat) ^ 63 = 9223372036854775808 := by decide
  rw [e]
  by_cases hb : n / 9223372036854775808 % 2 = 1
  · simp [hb]; omega
  · simp [hb]; omega
theorem top_iff (n : Nat) (h : n < 18446744073709551616) : n.testBit 63 = decide (9223372036854775808 ≤ n) := by
  rw [Nat.testBit_eq_decide_div_mod_eq]
  have e : (2 : Nat) ^ 63 = 9223372036854775808 := by decide
  rw [e]
  by_cases hb : 9223372036854775808 ≤ n
  · simp [hb]; omega
  · simp [hb]; omega

/-- The formula, on naturals. -/
def borN (x y d : Nat) : Nat := (((18446744073709551615 ^^^ x) &&& y) ||| ((18446744073709551615 ^^^ (x ^^^ y)) &&& d)) / 9223372036854775808

theorem max_top : (18446744073709551615 : Nat).testBit 63 = true := by decide

theorem borN_eq (x y d : Nat) (hx : x < 18446744073709551616) (hy : y < 18446744073709551616) (hd : d < 18446744073709551616) :
    borN x y d = if (x < 9223372036854775808 ∧ 9223372036854775808 ≤ y) ∨ ((x < 9223372036854775808 ↔ y < 9223372036854775808) ∧ 9223372036854775808 ≤ d) then 1 else 0 := by
  have l1 : (18446744073709551615 ^^^ x) &&& y < 2 ^ 64 := Nat.and_lt_two_pow _ (by omega)
  have l2 : (18446744073709551615 ^^^ (x ^^^ y)) &&& d < 2 ^ 64 := Nat.and_lt_two_pow _ (by omega)
  have l3 : ((18446744073709551615 ^^^ x) &&& y) ||| ((18446744073709551615 ^^^ (x ^^^ y)) &&& d) < 2 ^ 64 := Nat.or_lt_two_pow l1 l2
  unfold borN
  rw [top_eq _ (by omega), Nat.testBit_or, Nat.testBit_and, Nat.testBit_and, Nat.testBit_xor, Nat.testBit_xor, Nat.testBit_xor, max_top, top_iff x hx, top_iff y hy, top_iff d hd]
  by_cases a : 9223372036854775808 ≤ x <;> by_cases b : 9223372036854775808 ≤ y <;> by_cases c : 9223372036854775808 ≤ d <;> simp [a, b, c] <;> omega

/-- The formula as the model reckons it. -/
def bor (x y d : Int) : Int :=
  bits .or .u64 (bits .and .u64 (bits .xor .u64 (if IntKind.u64.signed = true then -1 else IntKind.u64.max) x) y)
    (bits .and .u64 (bits .xor .u64 (if IntKind.u64.signed = true then -1 else IntKind.u64.max) (bits .xor .u64 x y)) d) / 9223372036854775808

theorem ones : (if IntKind.u64.signed = true then -1 else IntKind.u64.max) = ((18446744073709551615 : Nat) : Int) := by
  simp [IntKind.signed, IntKind.max, IntKind.bits]

theorem bor_nat (x y d : Nat) (hx : x < 18446744073709551616) (hy : y < 18446744073709551616) (hd : d < 18446744073709551616) : bor x y d = ((borN x y d : Nat) : Int) := by
  have l0 : x ^^^ y < 2 ^ 64 := Nat.xor_lt_two_pow (by omega) (by omega)
  have l4 : 18446744073709551615 ^^^ x < 2 ^ 64 := Nat.xor_lt_two_pow (by omega) (by omega)
  have l5 : 18446744073709551615 ^^^ (x ^^^ y) < 2 ^ 64 := Nat.xor_lt_two_pow (by omega) (by omega)
  have l1 : (18446744073709551615 ^^^ x) &&& y < 2 ^ 64 := Nat.and_lt_two_pow _ (by omega)
  have l2 : (18446744073709551615 ^^^ (x ^^^ y)) &&& d < 2 ^ 64 := Nat.and_lt_two_pow _ (by omega)
  unfold bor borN
  rw [ones, u64_xor_nat _ _ (by omega) hx, u64_xor_nat x y hx hy, u64_xor_nat _ _ (by omega) (by omega), u64_and_nat _ _ (by omega) hy, u64_and_nat _ _ (by omega) hd, u64_or_nat _ _ (by omega) (by omega)]
  omega

/-- THE BORROW. -/
theorem bor_sub (x y b : Int) (hx0 : 0 ≤ x) (hx : x < 18446744073709551616) (hy0 : 0 ≤ y) (hy : y < 18446744073709551616) (hb0 : 0 ≤ b) (hb : b ≤ 1) :
    bor x y ((x - y - b) % 18446744073709551616) = if x < y + b then 1 else 0 := by
  obtain ⟨x, rfl⟩ := Int.eq_ofNat_of_zero_le hx0
  obtain ⟨y, rfl⟩ := Int.eq_ofNat_of_zero_le hy0
  obtain ⟨d, hd⟩ := Int.eq_ofNat_of_zero_le (show 0 ≤ ((x : Int) - y - b) % 18446744073709551616 by omega)
  rw [hd, bor_nat x y d (by omega) (by omega) (by omega), borN_eq x y d (by omega) (by omega) (by omega)]
  by_cases h : (x : Int) < y + b
  · rw [if_pos h, if_pos (by omega)]
    rfl
  · rw [if_neg h, if_neg (by omega)]
    rfl

theorem or_zero (x y : Int) (hx0 : 0 ≤ x) (hx : x < 18446744073709551616) (hy0 : 0 ≤ y) (hy : y < 18446744073709551616) : bits .or .u64 x y = 0 ↔ x = 0 ∧ y = 0 := by
  obtain ⟨x, rfl⟩ := Int.eq_ofNat_of_zero_le hx0
  obtain ⟨y, rfl⟩ := Int.eq_ofNat_of_zero_le hy0
  rw [u64_or_nat x y (by omega) (by omega)]
  constructor
  · intro h
    have h' : x ||| y = 0 := by omega
    have := Nat.or_eq_zero_iff.1 h'
    omega
  · rintro ⟨h1, h2⟩
    have h1' : x = 0 := by omega
    have h2' : y = 0 := by omega
    subst h1' h2'
    rfl
end Go.Proofs.Qxb6602829a
