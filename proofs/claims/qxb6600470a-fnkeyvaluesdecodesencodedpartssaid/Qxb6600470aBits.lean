import Derived.Test.Qxb6600470aPlain
import Derived.WalkKit
namespace Go.Proofs.Qxb6600470a
open Go.RowKit
set_option linter.unusedVariables false

theorem xor_low (u : Nat) (h : u < 2 ^ 63) : u ^^^ 2 ^ 63 = u + 2 ^ 63 := by
  have e := Nat.two_pow_add_eq_or_of_lt (i := 63) (b := u) h 1
  rw [Nat.mul_one] at e
  rw [Nat.add_comm, e]
  apply Nat.eq_of_testBit_eq
  intro j
  rw [Nat.testBit_xor, Nat.testBit_or, Nat.testBit_two_pow]
  by_cases hj : 63 = j
  · subst hj
    rw [Nat.testBit_lt_two_pow h]; simp
  · simp [hj]

theorem xor_high (u : Nat) (h : 2 ^ 63 ≤ u) (h' : u < 2 ^ 64) : u ^^^ 2 ^ 63 = u - 2 ^ 63 := by
  have e := xor_low (u - 2 ^ 63) (by omega)
  have e2 : u = (u - 2 ^ 63) ^^^ 2 ^ 63 := by rw [e]; omega
  calc u ^^^ 2 ^ 63 = ((u - 2 ^ 63) ^^^ 2 ^ 63) ^^^ 2 ^ 63 := by rw [← e2]
    _ = u - 2 ^ 63 := by rw [Nat.xor_assoc, Nat.xor_self, Nat.xor_zero]

theorem or_step (N : Nat) (c : UInt8) (h : N < 2 ^ 56) :
    bits .or .u64 (IntKind.u64.wrap ((N : Int) * 256)) (IntKind.u64.wrap (c.toNat : Int)) = ((N * 256 + c.toNat : Nat) : Int) := by
  have hc := c.toNat_lt
  have e1 : IntKind.u64.wrap ((N : Int) * 256) = ((N * 256 : Nat) : Int) := by rw [IntKind.wrap_u64]; omega
  have e2 : IntKind.u64.wrap (c.toNat : Int) = ((c.toNat : Nat) : Int) := by rw [IntKind.wrap_u64]; omega
  rw [e1, e2, u64_or_nat _ _ (by omega) (by omega), nat_join 8 _ _ (by omega) (by omega)]

theorem xor_enc (n : Int) (h1 : -(2 ^ 63) ≤ n) (h2 : n < 2 ^ 63) : bits .xor .u64 (IntKind.u64.wrap n) 9223372036854775808 = ((ubig n : Nat) : Int) := by
  have e : IntKind.u64.wrap n = (((n % 18446744073709551616).toNat : Nat) : Int) := by rw [IntKind.wrap_u64]; omega
  have e2 : (9223372036854775808 : Int) = ((9223372036854775808 : Nat) : Int) := rfl
  rw [e, e2, u64_xor_nat _ _ (by omega) (by omega)]
  congr 1
  have e3 : (9223372036854775808 : Nat) = 2 ^ 63 := by decide
  rw [e3]
  unfold ubig
  by_cases hn : 0 ≤ n
  · rw [xor_low _ (by omega)]; omega
  · rw [xor_high _ (by omega) (by omega)]; omega

theorem xor_dec (n : Int) (h1 : -(2 ^ 63) ≤ n) (h2 : n < 2 ^ 63) : wrap64 (bits .xor .u64 ((ubig n : Nat) : Int) 9223372036854775808) = n := by
  have hu := ubig_lt n h1 h2
  have e2 : (9223372036854775808 : Int) = ((9223372036854775808 : Nat) : Int) := rfl
  rw [e2, u64_xor_nat _ _ (by omega) (by omega)]
  have e3 : (9223372036854775808 : Nat) = 2 ^ 63 := by decide
  rw [e3]
  unfold ubig at hu ⊢
  by_cases hn : 0 ≤ n
  · rw [xor_high _ (by omega) (by omega)]; unfold wrap64; omega
  · rw [xor_low _ (by omega)]; unfold wrap64; omega

end Go.Proofs.Qxb6600470a
