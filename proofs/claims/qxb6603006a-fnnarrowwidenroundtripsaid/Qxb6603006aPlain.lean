import Derived.Test.Qxb6603006aRows
import Derived.WalkKit
import Derived.ProofKit
import Derived.Laws.BitsAllLaws
namespace Go.Proofs.Qxb6603006a
open Go.ChangeShapes Go.WideShapes Go.ChangeAt Go.RowKit

theorem ret_int {k : IntKind} {a b : Int} (h : a = b) : Ending.returned (.int k a) = .returned (.int k b) := by rw [h]

/-- The binary64 bits with sign s, exponent field e and fraction t. -/
def pk (s e t : Int) : Int := s * 9223372036854775808 + e * 4503599627370496 + t

theorem pk_bd (s e t : Int) (hs0 : 0 ≤ s) (hs1 : s ≤ 1) (he0 : 0 ≤ e) (he1 : e ≤ 2047) (ht0 : 0 ≤ t) (ht1 : t < 4503599627370496) : 0 ≤ pk s e t ∧ pk s e t < 18446744073709551616 := by
  unfold pk; omega

theorem u64_keep (a : Int) (h0 : 0 ≤ a) (h1 : a < 18446744073709551616) : IntKind.u64.wrap a = a := by
  rw [IntKind.wrap_u64]; omega
theorem i64_keep (a : Int) (h0 : -9223372036854775808 ≤ a) (h1 : a < 9223372036854775808) : IntKind.i64.wrap a = a := by
  rw [IntKind.wrap_i64]; omega

/-- Two numbers that share no bit, joined: x a multiple of 2^i, y below it. -/
theorem or_join (i : Nat) (x y : Int) (hx0 : 0 ≤ x) (hx1 : x < 18446744073709551616) (hy0 : 0 ≤ y) (hy1 : y < 2 ^ i) (hyb : y < 18446744073709551616) (hm : x % 2 ^ i = 0) : bits .or .u64 x y = x + y := by
  obtain ⟨a, rfl⟩ := Int.eq_ofNat_of_zero_le hx0
  obtain ⟨b, rfl⟩ := Int.eq_ofNat_of_zero_le hy0
  rw [u64_or_nat a b (by omega) (by omega)]
  have h1 : b < 2 ^ i := by
    have : ((b : Nat) : Int) < ((2 ^ i : Nat) : Int) := by rw [Int.natCast_pow]; exact hy1
    omega
  have h2 : a % 2 ^ i = 0 := by
    have : ((a % 2 ^ i : Nat) : Int) = 0 := by rw [Int.natCast_emod, Int.natCast_pow]; exact hm
    omega
  rw [nat_join i a b h2 h1]
  omega

/-- Sign, exponent field and fraction, joined by two ors. -/
theorem or_pk (s e t : Int) (hs0 : 0 ≤ s) (hs1 : s ≤ 1) (he0 : 0 ≤ e) (he1 : e ≤ 2047) (ht0 : 0 ≤ t) (ht1 : t < 4503599627370496) :
    bits .or .u64 (bits .or .u64 (s * 9223372036854775808) (e * 4503599627370496)) t = pk s e t := by
  rw [or_join 63 (s * 9223372036854775808) (e * 4503599627370496) (by omega) (by omega) (by omega) (by omega) (by omega) (by omega)]
  rw [or_join 52 _ t (by omega) (by omega) (by omega) (by omega) (by omega) (by omega)]
  rfl

theorem u64_mask (i : Nat) (x : Int) (m : Int) (hm : m = 2 ^ i - 1) (hi : i ≤ 63) (h0 : 0 ≤ x) (h1 : x < 18446744073709551616) : bits .and .u64 x m = x % 2 ^ i := by
  obtain ⟨a, rfl⟩ := Int.eq_ofNat_of_zero_le h0
  have hp : (2 : Nat) ^ i ≤ 2 ^ 63 := Nat.pow_le_pow_right (by omega) hi
  have hp0 : 0 < (2 : Nat) ^ i := Nat.pow_pos (by omega)
  have hm' : m = ((2 ^ i - 1 : Nat) : Int) := by
    rw [hm]
    have : (((2 : Nat) ^ i : Nat) : Int) = (2 : Int) ^ i := by rw [Int.natCast_pow]; rfl
    omega
  rw [hm', u64_and_nat a _ (by omega) (by omega), Nat.and_two_pow_sub_one_eq_mod, Int.natCast_emod, Int.natCast_pow]
  rfl

theorem ofInt_i64 (a : Nat) (ha : a < 9223372036854775808) : (BitVec.ofInt 64 (a : Int)).toNat = a := by
  rw [BitVec.ofInt_natCast, BitVec.toNat_ofNat]; exact Nat.mod_eq_of_lt (by omega)
theorem i64_and_nat (a b : Nat) (ha : a < 9223372036854775808) (hb : b < 9223372036854775808) : bits .and .i64 (a : Int) (b : Int) = ((a &&& b : Nat) : Int) := by
  have hx : a &&& b < 2 ^ 63 := Nat.and_lt_two_pow _ (by omega)
  show IntKind.i64.wrap ((BitVec.ofInt 64 (a : Int) &&& BitVec.ofInt 64 (b : Int)).toNat : Int) = _
  rw [BitVec.toNat_and, ofInt_i64 a ha, ofInt_i64 b hb, IntKind.wrap_i64]
  omega
theorem i64_mask (i : Nat) (x : Int) (m : Int) (hm : m = 2 ^ i - 1) (hi : i ≤ 62) (h0 : 0 ≤ x) (h1 : x < 9223372036854775808) : bits .and .i64 x m = x % 2 ^ i := by
  obtain ⟨a, rfl⟩ := Int.eq_ofNat_of_zero_le h0
  have hp : (2 : Nat) ^ i ≤ 2 ^ 62 := Nat.pow_le_pow_right (by omega) hi
  have hp0 : 0 < (2 : Nat) ^ i := Nat.pow_pos (by omega)
  have hm' : m = ((2 ^ i - 1 : Nat) : Int) := by
    rw [hm]
    have : (((2 : Nat) ^ i : Nat) : Int) = (2 : Int) ^ i := by rw [Int.natCast_pow]; rfl
    omega
  rw [hm', i64_and_nat a _ (by omega) (by omega), Nat.and_two_pow_sub_one_eq_mod, Int.natCast_emod, Int.natCast_pow]
  rfl

end Go.Proofs.Qxb6603006a
