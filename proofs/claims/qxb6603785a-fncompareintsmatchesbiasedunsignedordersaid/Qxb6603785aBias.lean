/-
  'uint64(a) ^ 1<<63' is a + 2^63: the plain arithmetic, away from the walk.
-/
import Derived.Test.Qxb6603785aRows
import Derived.WalkKit
import Derived.Laws.BitsAllLaws
namespace Go.Proofs.Qxb6603785a.walks

theorem xor_low (r : Nat) (h : r < 2 ^ 63) : r ^^^ 2 ^ 63 = 2 ^ 63 + r := by
  apply Nat.eq_of_testBit_eq
  intro i
  rw [Nat.testBit_xor, Nat.testBit_two_pow]
  by_cases h1 : i = 63
  · subst h1
    rw [Nat.testBit_two_pow_add_eq, Nat.testBit_lt_two_pow h]
    simp
  · by_cases h2 : i < 63
    · rw [Nat.testBit_two_pow_add_gt h2]
      have : ¬ 63 = i := by omega
      simp [this]
    · have h3 : r.testBit i = false := Nat.testBit_lt_two_pow (Nat.lt_of_lt_of_le h (Nat.pow_le_pow_right (by omega) (by omega)))
      have h4 : (2 ^ 63 + r).testBit i = false := Nat.testBit_lt_two_pow (Nat.lt_of_lt_of_le (by omega : 2 ^ 63 + r < 2 ^ 64) (Nat.pow_le_pow_right (by omega) (by omega)))
      have : ¬ 63 = i := by omega
      simp [this, h3, h4]

theorem xor_high (r : Nat) (h : r < 2 ^ 63) : (2 ^ 63 + r) ^^^ 2 ^ 63 = r := by
  rw [← xor_low r h, Nat.xor_assoc, Nat.xor_self, Nat.xor_zero]

/-- What 'biased' gives. -/
def bias (a : Int) : Int := bits BinOp.xor IntKind.u64 (IntKind.u64.wrap a) 9223372036854775808

theorem wrap_u64 (a : Int) : IntKind.u64.wrap a = a % 18446744073709551616 := by
  simp [IntKind.wrap, IntKind.signed, IntKind.bits]

theorem bias_eq (a : Int) (h0 : -9223372036854775808 ≤ a) (h1 : a ≤ 9223372036854775807) : bias a = a + 9223372036854775808 := by
  unfold bias
  rw [wrap_u64]
  by_cases hs : 0 ≤ a
  · have e1 : a % 18446744073709551616 = ((a.toNat : Nat) : Int) := by omega
    have hl : a.toNat < 2 ^ 63 := by omega
    rw [e1, show (9223372036854775808 : Int) = (((2 ^ 63 : Nat)) : Int) from by simp, u64_xor_nat _ _ (by omega) (by omega), xor_low _ hl]
    omega
  · have e1 : a % 18446744073709551616 = ((2 ^ 63 + (a + 9223372036854775808).toNat : Nat) : Int) := by omega
    have hl : (a + 9223372036854775808).toNat < 2 ^ 63 := by omega
    rw [e1, show (9223372036854775808 : Int) = (((2 ^ 63 : Nat)) : Int) from by simp, u64_xor_nat _ _ (by omega) (by omega)]
    rw [show ((((2 ^ 63 : Nat)) : Int)) = (9223372036854775808 : Int) from by simp, xor_high _ hl]
    omega

end Go.Proofs.Qxb6603785a.walks
