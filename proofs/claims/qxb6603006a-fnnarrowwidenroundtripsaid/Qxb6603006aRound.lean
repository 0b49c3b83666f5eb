import Derived.Test.Qxb6603006aNarrowB
namespace Go.Proofs.Qxb6603006a
open Go.ChangeShapes Go.WideShapes Go.ChangeAt Go.RowKit

/-- Sign, exponent field and fraction, read off the joined number. -/
theorem pk_parts (s e t : Int) (hs0 : 0 ≤ s) (hs1 : s ≤ 1) (he0 : 0 ≤ e) (he1 : e ≤ 2047) (ht0 : 0 ≤ t) (ht1 : t < 4503599627370496) :
    0 ≤ pk s e t ∧ pk s e t < 18446744073709551616 ∧ pk s e t / 9223372036854775808 = s ∧ bits .and .i64 (pk s e t / 4503599627370496) 2047 = e ∧ bits .and .u64 (pk s e t) 4503599627370495 = t := by
  obtain ⟨b0, b1⟩ := pk_bd s e t hs0 hs1 he0 he1 ht0 ht1
  rw [i64_mask 11 (pk s e t / 4503599627370496) 2047 (by omega) (by omega) (by omega) (by omega), u64_mask 52 (pk s e t) 4503599627370495 (by omega) (by omega) b0 b1]
  refine ⟨b0, b1, ?_, ?_, ?_⟩ <;> unfold pk <;> omega

/-! ### the numbers that narrow joins -/
theorem ntop_eq16 (S f : Int) (s0 : 0 ≤ S) (s1 : S ≤ 1) (f0 : 0 ≤ f) (f1 : f < 1024) :
    bits .or .u64 (bits .or .u64 (S * 32768) 31744) (f * 4398046511104 / 4398046511104) = S * 32768 + 31744 + f := by
  rw [show f * 4398046511104 / 4398046511104 = f by omega, or_join 15 (S * 32768) 31744 (by omega) (by omega) (by omega) (by omega) (by omega) (by omega), or_join 10 (S * 32768 + 31744) f (by omega) (by omega) (by omega) (by omega) (by omega) (by omega)]

theorem nnorm_eq16 (S e f : Int) (s0 : 0 ≤ S) (s1 : S ≤ 1) (e0 : 1 ≤ e) (e1 : e < 31) (f0 : 0 ≤ f) (f1 : f < 1024) :
    bits .or .u64 (bits .or .u64 (S * 32768) ((e + 1008 - 1023 + 15) * 1024)) (f * 4398046511104 / 4398046511104) = S * 32768 + e * 1024 + f := by
  rw [show f * 4398046511104 / 4398046511104 = f by omega, show e + 1008 - 1023 + 15 = e by omega, or_join 15 (S * 32768) (e * 1024) (by omega) (by omega) (by omega) (by omega) (by omega) (by omega), or_join 10 (S * 32768 + e * 1024) f (by omega) (by omega) (by omega) (by omega) (by omega) (by omega)]

theorem nsub_eq16 (S : Int) (f g j : Nat) (s0 : 0 ≤ S) (s1 : S ≤ 1) (f1 : f < 1024) (hg : g = f * 2 ^ j) (g0 : 1024 ≤ g) (g1 : g < 2048) :
    bits .or .u64 (S * 32768) (bits .or .u64 4503599627370496 (((g : Int) - 1024) * 4398046511104) / 2 ^ (28 - (-14 - (j : Int))).toNat) = S * 32768 + (f : Int) := by
  rw [or_join 52 4503599627370496 (((g : Int) - 1024) * 4398046511104) (by omega) (by omega) (by omega) (by omega) (by omega) (by omega), show (28 - (-14 - (j : Int))).toNat = j + 42 by omega]
  have e1 : (4503599627370496 : Int) + ((g : Int) - 1024) * 4398046511104 = ((f * 2 ^ (j + 42) : Nat) : Int) := by
    have e2 : f * 2 ^ (j + 42) = g * 4398046511104 := by rw [hg, Nat.pow_add, ← Nat.mul_assoc]
    rw [e2]
    omega
  have e3 : ((f * 2 ^ (j + 42) : Nat) : Int) / 2 ^ (j + 42) = (f : Int) := by
    have e4 : (2 : Int) ^ (j + 42) = ((2 ^ (j + 42) : Nat) : Int) := by rw [Int.natCast_pow]; rfl
    rw [e4, ← Int.natCast_ediv, Nat.mul_div_cancel _ (Nat.pow_pos (by omega))]
  rw [e1, e3, or_join 10 (S * 32768) (f : Int) (by omega) (by omega) (by omega) (by omega) (by omega) (by omega)]

theorem zzNarrow16 (x b : Int) (H : ∀ w : World, Calls Try.prog 14 #[.agg #[.int .i64 5, .int .i64 10], .int .u64 b] w fun e w' => e = .returned (.tuple #[.int .u64 x, .bool true]) ∧ Grown w w') (w : World) :
    Calls Try.prog 10 #[.int .i64 5, .int .i64 10, .int .u64 b] w fun e w' => e = .returned (.tuple #[.int .u64 x, .bool true]) ∧ Grown w w' := by
  have HH : Hid (∀ w : World, Calls Try.prog 14 #[.agg #[.int .i64 5, .int .i64 10], .int .u64 b] w fun e w' => e = .returned (.tuple #[.int .u64 x, .bool true]) ∧ Grown w w') := H
  clear H
  go_enter Try.func10, Try.ntmps10
  go_wp2_with fail
  refine (HH.out _).mono ?_
  rintro e w' ⟨rfl, hg⟩
  go_wp2
  go_ret2
  exact ⟨rfl, hg⟩

/-- widen gives a number that narrow brings back to x, exactly. -/
theorem round16 (x : Int) (h0 : 0 ≤ x) (h1 : x < 65536) : ∃ v : Int, (∀ w : World, Calls Try.prog 8 #[.int .i64 5, .int .i64 10, .int .u64 x] w fun e w' => e = .returned (.int .u64 v) ∧ Grown w w') ∧
    (∀ w : World, Calls Try.prog 10 #[.int .i64 5, .int .i64 10, .int .u64 v] w fun e w' => e = .returned (.tuple #[.int .u64 x, .bool true]) ∧ Grown w w') := by
  obtain ⟨a1, a2, _, a4⟩ := fields16 x h0 h1
  by_cases ht : x / 1024 % 32 = 31
  · rw [ht] at a2
    have W := wid16_top x (x / 32768) (x % 1024) h0 h1 a1 a2 a4 (by omega) (by omega) (by omega) (by omega)
    obtain ⟨q0, q1, q2, q3, q4⟩ := pk_parts (x / 32768) 2047 (x % 1024 * 4398046511104) (by omega) (by omega) (by omega) (by omega) (by omega) (by omega)
    exact ⟨_, zzWiden16 x _ W, zzNarrow16 x _ (nar16_top x _ (x / 32768) (x % 1024 * 4398046511104) q0 q1 q2 q3 q4 (by omega) (by omega) (by omega) (by omega) ((ntop_eq16 (x / 32768) (x % 1024) (by omega) (by omega) (by omega) (by omega)).trans (by omega)) W)⟩
  · by_cases hz : x / 1024 % 32 = 0
    · rw [hz] at a2
      by_cases hf : x % 1024 = 0
      · rw [hf] at a4
        have W := wid16_zero x (x / 32768) h0 h1 a1 a2 a4 (by omega) (by omega)
        obtain ⟨q0, q1, q2, q3, q4⟩ := pk_parts (x / 32768) 0 0 (by omega) (by omega) (by omega) (by omega) (by omega) (by omega)
        exact ⟨_, zzWiden16 x _ W, zzNarrow16 x _ (nar16_zero x _ (x / 32768) q0 q1 q2 q3 q4 (by omega) (by omega) (by omega) W)⟩
      · obtain ⟨f, hf'⟩ : ∃ f : Nat, x % 1024 = (f : Int) := ⟨(x % 1024).toNat, by omega⟩
        rw [hf'] at a4
        obtain ⟨j, g, p, hp, hj, hg, g0, g1⟩ := exists_norm 10 f (by omega) (by omega)
        have W := wid16_sub x (x / 32768) f g j h0 h1 a1 a2 a4 (by omega) (by omega) (by omega) (by omega) (by omega) hg (by omega) (by omega)
        obtain ⟨q0, q1, q2, q3, q4⟩ := pk_parts (x / 32768) (1009 - (j : Int)) (((g : Int) - 1024) * 4398046511104) (by omega) (by omega) (by omega) (by omega) (by omega) (by omega)
        exact ⟨_, zzWiden16 x _ W, zzNarrow16 x _ (nar16_sub x _ (x / 32768) (((g : Int) - 1024) * 4398046511104) j q0 q1 q2 q3 q4 (by omega) (by omega) hj (by omega) (by omega) (by omega) ((nsub_eq16 (x / 32768) f g j (by omega) (by omega) (by omega) hg (by omega) (by omega)).trans (by omega)) W)⟩
    · have W := wid16_norm x (x / 32768) (x / 1024 % 32) (x % 1024) h0 h1 a1 a2 a4 (by omega) (by omega) (by omega) (by omega) (by omega) (by omega)
      obtain ⟨q0, q1, q2, q3, q4⟩ := pk_parts (x / 32768) (x / 1024 % 32 + 1008) (x % 1024 * 4398046511104) (by omega) (by omega) (by omega) (by omega) (by omega) (by omega)
      exact ⟨_, zzWiden16 x _ W, zzNarrow16 x _ (nar16_norm x _ (x / 32768) (x / 1024 % 32 + 1008) (x % 1024 * 4398046511104) q0 q1 q2 q3 q4 (by omega) (by omega) (by omega) (by omega) (by omega) (by omega) ((nnorm_eq16 (x / 32768) (x / 1024 % 32) (x % 1024) (by omega) (by omega) (by omega) (by omega) (by omega) (by omega)).trans (by omega)) W)⟩

/-! ### the numbers that narrow joins -/
theorem ntop_eq32 (S f : Int) (s0 : 0 ≤ S) (s1 : S ≤ 1) (f0 : 0 ≤ f) (f1 : f < 8388608) :
    bits .or .u64 (bits .or .u64 (S * 2147483648) 2139095040) (f * 536870912 / 536870912) = S * 2147483648 + 2139095040 + f := by
  rw [show f * 536870912 / 536870912 = f by omega, or_join 31 (S * 2147483648) 2139095040 (by omega) (by omega) (by omega) (by omega) (by omega) (by omega), or_join 23 (S * 2147483648 + 2139095040) f (by omega) (by omega) (by omega) (by omega) (by omega) (by omega)]

theorem nnorm_eq32 (S e f : Int) (s0 : 0 ≤ S) (s1 : S ≤ 1) (e0 : 1 ≤ e) (e1 : e < 255) (f0 : 0 ≤ f) (f1 : f < 8388608) :
    bits .or .u64 (bits .or .u64 (S * 2147483648) ((e + 896 - 1023 + 127) * 8388608)) (f * 536870912 / 536870912) = S * 2147483648 + e * 8388608 + f := by
  rw [show f * 536870912 / 536870912 = f by omega, show e + 896 - 1023 + 127 = e by omega, or_join 31 (S * 2147483648) (e * 8388608) (by omega) (by omega) (by omega) (by omega) (by omega) (by omega), or_join 23 (S * 2147483648 + e * 8388608) f (by omega) (by omega) (by omega) (by omega) (by omega) (by omega)]

theorem nsub_eq32 (S : Int) (f g j : Nat) (s0 : 0 ≤ S) (s1 : S ≤ 1) (f1 : f < 8388608) (hg : g = f * 2 ^ j) (g0 : 8388608 ≤ g) (g1 : g < 16777216) :
    bits .or .u64 (S * 2147483648) (bits .or .u64 4503599627370496 (((g : Int) - 8388608) * 536870912) / 2 ^ (-97 - (-126 - (j : Int))).toNat) = S * 2147483648 + (f : Int) := by
  rw [or_join 52 4503599627370496 (((g : Int) - 8388608) * 536870912) (by omega) (by omega) (by omega) (by omega) (by omega) (by omega), show (-97 - (-126 - (j : Int))).toNat = j + 29 by omega]
  have e1 : (4503599627370496 : Int) + ((g : Int) - 8388608) * 536870912 = ((f * 2 ^ (j + 29) : Nat) : Int) := by
    have e2 : f * 2 ^ (j + 29) = g * 536870912 := by rw [hg, Nat.pow_add, ← Nat.mul_assoc]
    rw [e2]
    omega
  have e3 : ((f * 2 ^ (j + 29) : Nat) : Int) / 2 ^ (j + 29) = (f : Int) := by
    have e4 : (2 : Int) ^ (j + 29) = ((2 ^ (j + 29) : Nat) : Int) := by rw [Int.natCast_pow]; rfl
    rw [e4, ← Int.natCast_ediv, Nat.mul_div_cancel _ (Nat.pow_pos (by omega))]
  rw [e1, e3, or_join 23 (S * 2147483648) (f : Int) (by omega) (by omega) (by omega) (by omega) (by omega) (by omega)]

theorem zzNarrow32 (x b : Int) (H : ∀ w : World, Calls Try.prog 14 #[.agg #[.int .i64 8, .int .i64 23], .int .u64 b] w fun e w' => e = .returned (.tuple #[.int .u64 x, .bool true]) ∧ Grown w w') (w : World) :
    Calls Try.prog 10 #[.int .i64 8, .int .i64 23, .int .u64 b] w fun e w' => e = .returned (.tuple #[.int .u64 x, .bool true]) ∧ Grown w w' := by
  have HH : Hid (∀ w : World, Calls Try.prog 14 #[.agg #[.int .i64 8, .int .i64 23], .int .u64 b] w fun e w' => e = .returned (.tuple #[.int .u64 x, .bool true]) ∧ Grown w w') := H
  clear H
  go_enter Try.func10, Try.ntmps10
  go_wp2_with fail
  refine (HH.out _).mono ?_
  rintro e w' ⟨rfl, hg⟩
  go_wp2
  go_ret2
  exact ⟨rfl, hg⟩

/-- widen gives a number that narrow brings back to x, exactly. -/
theorem round32 (x : Int) (h0 : 0 ≤ x) (h1 : x < 4294967296) : ∃ v : Int, (∀ w : World, Calls Try.prog 8 #[.int .i64 8, .int .i64 23, .int .u64 x] w fun e w' => e = .returned (.int .u64 v) ∧ Grown w w') ∧
    (∀ w : World, Calls Try.prog 10 #[.int .i64 8, .int .i64 23, .int .u64 v] w fun e w' => e = .returned (.tuple #[.int .u64 x, .bool true]) ∧ Grown w w') := by
  obtain ⟨a1, a2, _, a4⟩ := fields32 x h0 h1
  by_cases ht : x / 8388608 % 256 = 255
  · rw [ht] at a2
    have W := wid32_top x (x / 2147483648) (x % 8388608) h0 h1 a1 a2 a4 (by omega) (by omega) (by omega) (by omega)
    obtain ⟨q0, q1, q2, q3, q4⟩ := pk_parts (x / 2147483648) 2047 (x % 8388608 * 536870912) (by omega) (by omega) (by omega) (by omega) (by omega) (by omega)
    exact ⟨_, zzWiden32 x _ W, zzNarrow32 x _ (nar32_top x _ (x / 2147483648) (x % 8388608 * 536870912) q0 q1 q2 q3 q4 (by omega) (by omega) (by omega) (by omega) ((ntop_eq32 (x / 2147483648) (x % 8388608) (by omega) (by omega) (by omega) (by omega)).trans (by omega)) W)⟩
  · by_cases hz : x / 8388608 % 256 = 0
    · rw [hz] at a2
      by_cases hf : x % 8388608 = 0
      · rw [hf] at a4
        have W := wid32_zero x (x / 2147483648) h0 h1 a1 a2 a4 (by omega) (by omega)
        obtain ⟨q0, q1, q2, q3, q4⟩ := pk_parts (x / 2147483648) 0 0 (by omega) (by omega) (by omega) (by omega) (by omega) (by omega)
        exact ⟨_, zzWiden32 x _ W, zzNarrow32 x _ (nar32_zero x _ (x / 2147483648) q0 q1 q2 q3 q4 (by omega) (by omega) (by omega) W)⟩
      · obtain ⟨f, hf'⟩ : ∃ f : Nat, x % 8388608 = (f : Int) := ⟨(x % 8388608).toNat, by omega⟩
        rw [hf'] at a4
        obtain ⟨j, g, p, hp, hj, hg, g0, g1⟩ := exists_norm 23 f (by omega) (by omega)
        have W := wid32_sub x (x / 2147483648) f g j h0 h1 a1 a2 a4 (by omega) (by omega) (by omega) (by omega) (by omega) hg (by omega) (by omega)
        obtain ⟨q0, q1, q2, q3, q4⟩ := pk_parts (x / 2147483648) (897 - (j : Int)) (((g : Int) - 8388608) * 536870912) (by omega) (by omega) (by omega) (by omega) (by omega) (by omega)
        exact ⟨_, zzWiden32 x _ W, zzNarrow32 x _ (nar32_sub x _ (x / 2147483648) (((g : Int) - 8388608) * 536870912) j q0 q1 q2 q3 q4 (by omega) (by omega) hj (by omega) (by omega) (by omega) ((nsub_eq32 (x / 2147483648) f g j (by omega) (by omega) (by omega) hg (by omega) (by omega)).trans (by omega)) W)⟩
    · have W := wid32_norm x (x / 2147483648) (x / 8388608 % 256) (x % 8388608) h0 h1 a1 a2 a4 (by omega) (by omega) (by omega) (by omega) (by omega) (by omega)
      obtain ⟨q0, q1, q2, q3, q4⟩ := pk_parts (x / 2147483648) (x / 8388608 % 256 + 896) (x % 8388608 * 536870912) (by omega) (by omega) (by omega) (by omega) (by omega) (by omega)
      exact ⟨_, zzWiden32 x _ W, zzNarrow32 x _ (nar32_norm x _ (x / 2147483648) (x / 8388608 % 256 + 896) (x % 8388608 * 536870912) q0 q1 q2 q3 q4 (by omega) (by omega) (by omega) (by omega) (by omega) (by omega) ((nnorm_eq32 (x / 2147483648) (x / 8388608 % 256) (x % 8388608) (by omega) (by omega) (by omega) (by omega) (by omega) (by omega)).trans (by omega)) W)⟩

end Go.Proofs.Qxb6603006a
