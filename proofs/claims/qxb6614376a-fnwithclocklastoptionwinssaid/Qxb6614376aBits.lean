import Derived.Test.Qxb6614376aRows
import Derived.WalkKit
namespace Go.Proofs.Qxb6614376a
open Go.RowKit

theorem b_mask (n : Int) (h0 : 0 ≤ n) (h1 : n < 1000000000) : bits BinOp.and IntKind.u64 n 1073741823 = n := by
  obtain ⟨k, rfl⟩ := Int.eq_ofNat_of_zero_le h0
  have e := bits_and_u64_nat k 1073741823 (by omega) (by omega)
  refine e.trans ?_
  have : k &&& 1073741823 = k % 2 ^ 30 := Nat.and_two_pow_sub_one_eq_mod k 30
  rw [this, Nat.mod_eq_of_lt (by omega)]

theorem b_top (n : Int) (h0 : 0 ≤ n) (h1 : n < 1000000000) : bits BinOp.and IntKind.u64 n 9223372036854775808 = 0 := by
  obtain ⟨k, rfl⟩ := Int.eq_ofNat_of_zero_le h0
  have e := bits_and_u64_nat k 9223372036854775808 (by omega) (by omega)
  refine e.trans ?_
  have : k &&& 2 ^ 63 = 0 := by
    apply Nat.eq_of_testBit_eq
    intro i
    rw [Nat.testBit_and, Nat.testBit_two_pow, Nat.zero_testBit]
    by_cases hi : 63 = i
    · subst hi
      have : k.testBit 63 = false := Nat.testBit_lt_two_pow (by omega)
      simp [this]
    · simp [hi]
  rw [show (9223372036854775808 : Nat) = 2 ^ 63 from rfl, this]
  rfl

theorem b_zero (n : Int) (h0 : 0 ≤ n) (h1 : n < 1000000000) : bits BinOp.and IntKind.u64 n 0 = 0 := by
  obtain ⟨k, rfl⟩ := Int.eq_ofNat_of_zero_le h0
  have e := bits_and_u64_nat k 0 (by omega) (by omega)
  refine e.trans ?_
  simp

theorem b_or (n : Int) (h0 : 0 ≤ n) (h1 : n < 1000000000) : bits BinOp.or IntKind.u64 0 n = n := by
  obtain ⟨k, rfl⟩ := Int.eq_ofNat_of_zero_le h0
  have e := bits_or_u64_nat 0 k (by omega) (by omega)
  refine e.trans ?_
  simp
end Go.Proofs.Qxb6614376a
