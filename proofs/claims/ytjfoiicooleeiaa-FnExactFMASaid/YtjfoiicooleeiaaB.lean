/- What Go's operators on bits do to words, as plain arithmetic; no condition but that the operands are words. -/
import Derived.WalkKit
import Derived.Test.YtjfoiicooleeiaaFd
import Derived.Test.YtjfoiicooleeiaaFs
namespace Go.Proofs.Ytjfoiicooleeiaa
open Go.RowKit

theorem and_high (a m i : Nat) : a &&& (m * 2 ^ i) = (a / 2 ^ i &&& m) * 2 ^ i := by
  apply Nat.eq_of_testBit_eq
  intro j
  rw [Nat.testBit_and, Nat.testBit_mul_two_pow, Nat.testBit_mul_two_pow, Nat.testBit_and, Nat.testBit_div_two_pow]
  by_cases h : i ≤ j
  · have : i + (j - i) = j := by omega
    have : j - i + i = j := by omega
    simp [*]
  · simp [h]

theorem and_low (a i : Nat) : a &&& (2 ^ i - 1) = a % 2 ^ i := Nat.and_two_pow_sub_one_eq_mod a i

theorem andNot_u64 (a b : Nat) (ha : a < 18446744073709551616) (hb : b < 18446744073709551616) :
    bits .andNot .u64 (a : Int) (b : Int) = ((a - (a &&& b) : Nat) : Int) := by
  have h1 : (BitVec.ofInt 64 (a : Int)) = BitVec.ofNat 64 a := BitVec.ofInt_natCast ..
  have h2 : (BitVec.ofInt 64 (b : Int)) = BitVec.ofNat 64 b := BitVec.ofInt_natCast ..
  show IntKind.u64.wrap ((BitVec.ofInt 64 (a : Int) &&& ~~~BitVec.ofInt 64 (b : Int)).toNat : Int) = _
  rw [h1, h2, IntKind.wrap_u64]
  generalize hx : BitVec.ofNat 64 a = x
  generalize hy : BitVec.ofNat 64 b = y
  have ea : x.toNat = a := by rw [← hx, BitVec.toNat_ofNat]; omega
  have eb : y.toNat = b := by rw [← hy, BitVec.toNat_ofNat]; omega
  have e0 : (x &&& ~~~y) &&& (x &&& y) = 0#64 := by
    ext i hi; simp
    cases x[i] <;> cases y[i] <;> simp
  have e1 : (x &&& ~~~y) + (x &&& y) = x := by
    rw [BitVec.add_eq_or_of_and_eq_zero _ _ e0]
    ext i hi; simp
    cases x[i] <;> cases y[i] <;> simp
  have e2 := congrArg BitVec.toNat e1
  rw [BitVec.toNat_add_of_and_eq_zero e0, BitVec.toNat_and x y, ea, eb] at e2
  have := (x &&& ~~~y).isLt
  omega

theorem or_high (x y i : Nat) (h : x < 2 ^ i) : x ||| (y * 2 ^ i) = x + y * 2 ^ i := by
  have := Nat.two_pow_add_eq_or_of_lt h y
  rw [Nat.or_comm, Nat.mul_comm, ← this]; omega

theorem xor_top (b i : Nat) (h : b < 2 ^ i) : b ^^^ 2 ^ i = b + 2 ^ i := by
  have e : b ^^^ 2 ^ i = b ||| (1 * 2 ^ i) := by
    apply Nat.eq_of_testBit_eq
    intro j
    rw [Nat.testBit_xor, Nat.testBit_or, Nat.one_mul, Nat.testBit_two_pow]
    by_cases c : i = j
    · subst c; simp [Nat.testBit_lt_two_pow h]
    · simp [c]
  rw [e, or_high b 1 i h]; omega

theorem xor_63 (b : Nat) (h : b < 18446744073709551616) : b ^^^ 2 ^ 63 = Fd.ng b := by
  unfold Fd.ng
  by_cases c : b < 9223372036854775808
  · rw [if_pos c]; exact xor_top b 63 c
  · rw [if_neg c]
    have e := xor_top (b - 2 ^ 63) 63 (by omega)
    have e2 : b - 2 ^ 63 + 2 ^ 63 = b := by omega
    rw [e2] at e
    rw [← e, Nat.xor_assoc, Nat.xor_self, Nat.xor_zero, e]
theorem xor_31 (b : Nat) (h : b < 4294967296) : b ^^^ 2 ^ 31 = Fs.ng b := by
  unfold Fs.ng
  by_cases c : b < 2147483648
  · rw [if_pos c]; exact xor_top b 31 c
  · rw [if_neg c]
    have e := xor_top (b - 2 ^ 31) 31 (by omega)
    have e2 : b - 2 ^ 31 + 2 ^ 31 = b := by omega
    rw [e2] at e
    rw [← e, Nat.xor_assoc, Nat.xor_self, Nat.xor_zero, e]

theorem negF64 (b : Nat) (h : b < 18446744073709551616) : Op.negFloat .f64 b = Fd.ng b := xor_63 b h
theorem negF32 (b : Nat) (h : b < 4294967296) : Op.negFloat .f32 b = Fs.ng b := xor_31 b h

theorem b_xor63 (a : Nat) (h : a < 18446744073709551616) : bits .xor .u64 (a : Int) 9223372036854775808 = ((Fd.ng a : Nat) : Int) := by
  have := bits_xor_u64_nat a 9223372036854775808 h (by decide)
  rw [show ((9223372036854775808 : Nat) : Int) = 9223372036854775808 from rfl] at this
  rw [this]; exact congrArg _ (xor_63 a h)

theorem b_and63 (a : Nat) (h : a < 18446744073709551616) : bits .and .u64 (a : Int) 9223372036854775808 = ((a / 9223372036854775808 * 9223372036854775808 : Nat) : Int) := by
  have := bits_and_u64_nat a 9223372036854775808 h (by decide)
  rw [show ((9223372036854775808 : Nat) : Int) = 9223372036854775808 from rfl] at this
  rw [this]
  have e := and_high a 1 63
  have e1 := and_low (a / 2 ^ 63) 1
  simp only [Nat.reducePow, Nat.one_mul, Nat.reduceSub] at e e1
  rw [e, e1]; congr 2; omega

theorem b_not63 (a : Nat) (h : a < 18446744073709551616) : bits .andNot .u64 (a : Int) 9223372036854775808 = ((a % 9223372036854775808 : Nat) : Int) := by
  have := andNot_u64 a 9223372036854775808 h (by decide)
  rw [show ((9223372036854775808 : Nat) : Int) = 9223372036854775808 from rfl] at this
  rw [this]
  have e := and_high a 1 63
  have e1 := and_low (a / 2 ^ 63) 1
  simp only [Nat.reducePow, Nat.one_mul, Nat.reduceSub] at e e1
  rw [e, e1]; congr 1; omega

theorem b_or63 (x y : Nat) (hx : x < 9223372036854775808) (hy : y ≤ 1) : bits .or .u64 (x : Int) ((y * 9223372036854775808 : Nat) : Int) = ((x + y * 9223372036854775808 : Nat) : Int) := by
  rw [bits_or_u64_nat x _ (by omega) (by omega)]
  exact congrArg _ (or_high x y 63 hx)

theorem b_low63 (a : Nat) (h : a < 18446744073709551616) : bits .and .u64 (a : Int) 9223372036854775807 = ((a % 9223372036854775808 : Nat) : Int) := by
  have := bits_and_u64_nat a 9223372036854775807 h (by decide)
  rw [show ((9223372036854775807 : Nat) : Int) = 9223372036854775807 from rfl] at this
  rw [this]; exact congrArg _ (and_low a 63)

theorem b_low52 (a : Nat) (h : a < 18446744073709551616) : bits .and .u64 (a : Int) 4503599627370495 = ((a % 4503599627370496 : Nat) : Int) := by
  have := bits_and_u64_nat a 4503599627370495 h (by decide)
  rw [show ((4503599627370495 : Nat) : Int) = 4503599627370495 from rfl] at this
  rw [this]; exact congrArg _ (and_low a 52)

theorem b_low11 (a : Nat) (h : a < 18446744073709551616) : bits .and .u64 (a : Int) 2047 = ((a % 2048 : Nat) : Int) := by
  have := bits_and_u64_nat a 2047 h (by decide)
  rw [show ((2047 : Nat) : Int) = 2047 from rfl] at this
  rw [this]; exact congrArg _ (and_low a 11)

/-- the exponent's bits taken away: 'x &^ (2047 << 52)' -/
theorem b_notExp (a : Nat) (h : a < 18446744073709551616) : bits .andNot .u64 (a : Int) 9218868437227405312 = ((a / 9223372036854775808 * 9223372036854775808 + a % 4503599627370496 : Nat) : Int) := by
  have := andNot_u64 a 9218868437227405312 h (by decide)
  rw [show ((9218868437227405312 : Nat) : Int) = 9218868437227405312 from rfl] at this
  rw [this]
  have e := and_high a 2047 52
  have e1 := and_low (a / 2 ^ 52) 11
  simp only [Nat.reducePow, Nat.reduceMul, Nat.reduceSub] at e e1
  rw [e, e1]; congr 1; omega

end Go.Proofs.Ytjfoiicooleeiaa
