/- Small laws on Go's int: xor, and, or, and-not of small numbers. -/
import Derived.Laws.BitsAllLaws
import Derived.Laws.Bits64
import Derived.Test.YtjgclomokekogaaFld
namespace Go.Proofs.Ytjgclomokekogaa
open Rs

theorem wrap_i64_nat (a : Nat) (ha : a < 9223372036854775808) : IntKind.i64.wrap (a : Int) = (a : Int) := by
  simp [IntKind.wrap, IntKind.bits, IntKind.signed]; omega
theorem of64 (a : Nat) (ha : a < 18446744073709551616) : (BitVec.ofInt 64 (a : Int)).toNat = a := by
  rw [BitVec.ofInt_natCast, BitVec.toNat_ofNat]; exact Nat.mod_eq_of_lt (by omega)
theorem xor_i64 (a b : Nat) (ha : a < 4294967296) (hb : b < 4294967296) : bits .xor .i64 (a : Int) (b : Int) = ((a ^^^ b : Nat) : Int) := by
  have hx : a ^^^ b < 2 ^ 32 := Nat.xor_lt_two_pow (by omega) (by omega)
  show IntKind.i64.wrap ((BitVec.ofInt 64 (a : Int) ^^^ BitVec.ofInt 64 (b : Int)).toNat : Int) = _
  rw [BitVec.toNat_xor, of64 a (by omega), of64 b (by omega)]
  exact wrap_i64_nat _ (by omega)
theorem and_i64 (a b : Nat) (ha : a < 4294967296) (hb : b < 4294967296) : bits .and .i64 (a : Int) (b : Int) = ((a &&& b : Nat) : Int) := by
  have hx : a &&& b ≤ a := Nat.and_le_left
  show IntKind.i64.wrap ((BitVec.ofInt 64 (a : Int) &&& BitVec.ofInt 64 (b : Int)).toNat : Int) = _
  rw [BitVec.toNat_and, of64 a (by omega), of64 b (by omega)]
  exact wrap_i64_nat _ (by omega)
theorem and1_i64 (a : Nat) (ha : a < 4294967296) : bits .and .i64 (a : Int) 1 = ((a % 2 : Nat) : Int) := by
  have h := and_i64 a 1 ha (by omega)
  rw [show ((1 : Nat) : Int) = 1 from rfl] at h
  rw [h, Nat.and_one_is_mod]
theorem bit1 (i : Nat) : Nat.testBit 1 (i + 1) = false := by
  rw [Nat.testBit_succ]; simp
theorem or1_i64 (a : Nat) (ha : a < 4294967296) (he : a % 2 = 0) : bits .or .i64 (a : Int) 1 = ((a ^^^ 1 : Nat) : Int) := by
  have h0 : a ||| 1 = a ^^^ 1 := by
    apply Nat.eq_of_testBit_eq; intro i
    rw [Nat.testBit_or, Nat.testBit_xor]
    cases i with
    | zero => simp [he]
    | succ i => rw [bit1]; simp
  have hx : a ^^^ 1 < 2 ^ 32 := Nat.xor_lt_two_pow (by omega) (by omega)
  have hb : (BitVec.ofInt 64 (1 : Int)).toNat = 1 := by decide
  show IntKind.i64.wrap ((BitVec.ofInt 64 (a : Int) ||| BitVec.ofInt 64 (1 : Int)).toNat : Int) = _
  rw [BitVec.toNat_or, of64 a (by omega), hb, h0]
  exact wrap_i64_nat _ (by omega)
theorem andm2_i64 (a : Nat) (ha : a < 4294967296) (he : a % 2 = 1) : bits .and .i64 (a : Int) (-2) = ((a ^^^ 1 : Nat) : Int) := by
  have hb : (BitVec.ofInt 64 (-2 : Int)).toNat = 2 ^ 64 - 2 := by decide
  have h0 : a &&& (2 ^ 64 - 2) = a ^^^ 1 := by
    apply Nat.eq_of_testBit_eq; intro i
    rw [Nat.testBit_and, Nat.testBit_xor, show (2 ^ 64 - 2 : Nat) = 2 ^ 1 * (2 ^ 63 - 1) from by decide, Nat.testBit_two_pow_mul, Nat.testBit_two_pow_sub_one]
    cases i with
    | zero => simp [he]
    | succ i =>
      by_cases h : i < 63
      · simp [h, bit1]
      · have : a.testBit (i + 1) = false := Nat.testBit_lt_two_pow (Nat.lt_of_lt_of_le (by omega : a < 2 ^ 32) (Nat.pow_le_pow_right (by omega) (by omega)))
        simp [this, bit1]
  have hx : a ^^^ 1 < 2 ^ 32 := Nat.xor_lt_two_pow (by omega) (by omega)
  show IntKind.i64.wrap ((BitVec.ofInt 64 (a : Int) &&& BitVec.ofInt 64 (-2 : Int)).toNat : Int) = _
  rw [BitVec.toNat_and, of64 a (by omega), hb, h0]
  exact wrap_i64_nat _ (by omega)

/-- Go's doubling in the reference: shift, and the polynomial where it grew too great. -/
theorem xt_small {f : FP} {a : Nat} (h : 2 * a < f.size) : xt f.m f.p a = 2 * a := by unfold xt; exact if_pos h
theorem xt_great {f : FP} {a : Nat} (h : ¬ 2 * a < f.size) : xt f.m f.p a = 2 * a ^^^ f.p := by unfold xt; exact if_neg h
theorem _root_.Rs.FP.p_lt (f : FP) : f.p < 8192 := by
  have := f.good.hi
  have h := Nat.pow_le_pow_right (n := 2) (by omega) (show f.m + 1 ≤ 13 from by have := f.small; omega)
  exact Nat.lt_of_lt_of_le this h
theorem mulF_zero (m p n a : Nat) : mulF m p n a 0 = 0 := by
  induction n generalizing a with
  | zero => rfl
  | succ n ih => rw [mulF, if_neg (by decide), Nat.zero_div, ih]; rfl
/-- One round of the reference's product. -/
theorem mul_round (m p n a b o : Nat) (hb : 0 < b) (hn : b < 2 ^ n) : o ^^^ mulF m p n a b = (if b % 2 = 1 then o ^^^ a else o) ^^^ mulF m p (n - 1) (xt m p a) (b / 2) ∧ b / 2 < 2 ^ (n - 1) := by
  cases n with
  | zero => simp at hn; omega
  | succ n =>
    refine ⟨?_, by rw [Nat.pow_succ] at hn; simp; omega⟩
    rw [mulF, Nat.add_sub_cancel]
    split
    · rw [Nat.xor_assoc]
    · rw [Nat.zero_xor]
end Go.Proofs.Ytjgclomokekogaa
