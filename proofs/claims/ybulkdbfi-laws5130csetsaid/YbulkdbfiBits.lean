import Derived.Laws.BitsAllLaws
namespace Go.Proofs.Ybulkdbfi
open Go

theorem and_far (x y : Nat) (hx : x < 2 ^ 30) (hy : y % 2 ^ 30 = 0) : x &&& y = 0 := by
  have h1 : (x &&& y) % 2 ^ 30 = 0 := by rw [Nat.and_mod_two_pow, hy, Nat.and_zero]
  have h2 : x &&& y ≤ x := Nat.and_le_left
  rw [Nat.mod_eq_of_lt (by omega)] at h1
  exact h1

theorem b_and (n : Int) (h0 : 0 ≤ n) (h1 : n < 1000000000) : bits .and .u64 n 1073741823 = n := by
  rw [u64_and n 1073741823 h0 (by omega) (by omega) (by omega), show (1073741823 : Int).toNat = 2 ^ 30 - 1 from rfl, Nat.and_two_pow_sub_one_eq_mod, Nat.mod_eq_of_lt (by omega)]
  omega
theorem b_andNot (n : Int) (h0 : 0 ≤ n) (h1 : n < 1000000000) : bits .andNot .u64 n 1073741823 = 0 := by
  rw [u64_andNot n 1073741823 h0 (by omega) (by omega) (by omega), and_far _ _ (by omega) (by decide)]
  rfl
theorem b_or (n : Int) (h0 : 0 ≤ n) (h1 : n < 1000000000) : bits .or .u64 0 n = n := by
  rw [u64_or 0 n (by omega) (by omega) h0 (by omega)]
  simp only [Int.toNat_zero, Nat.zero_or]
  omega
theorem b_mono (n : Int) (h0 : 0 ≤ n) (h1 : n < 1000000000) : bits .and .u64 n 9223372036854775808 = 0 := by
  rw [u64_and n 9223372036854775808 h0 (by omega) (by omega) (by omega), and_far _ _ (by omega) (by decide)]
  rfl
end Go.Proofs.Ybulkdbfi
namespace Go.Proofs.Ybulkdbfi
open Go
theorem not_neg (x : Int) (h0 : -9223372036854775808 ≤ x) (h1 : x < 0) : bits .xor .i64 (-1) x = -1 - x := by
  show IntKind.i64.wrap ((BitVec.ofInt 64 (-1) ^^^ BitVec.ofInt 64 x).toNat : Int) = _
  have h2 : BitVec.ofInt 64 (-1) = BitVec.allOnes 64 := by decide
  rw [h2, BitVec.allOnes_xor, BitVec.toNat_not, BitVec.toNat_ofInt]
  simp [IntKind.wrap, IntKind.bits, IntKind.signed]
  omega
end Go.Proofs.Ybulkdbfi
