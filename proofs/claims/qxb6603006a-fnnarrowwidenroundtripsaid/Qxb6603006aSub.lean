import Derived.Test.Qxb6603006aWiden
namespace Go.Proofs.Qxb6603006a
open Go.ChangeShapes Go.WideShapes Go.ChangeAt Go.RowKit

theorem sub_small (B f g j k gk : Nat) (hlt : k < j) (hg : g = f * 2 ^ j) (hgk : gk = f * 2 ^ k) (g1 : g < 2 * B) : gk < B := by
  have h1 : 2 ^ (k + 1) ≤ 2 ^ j := Nat.pow_le_pow_right (by omega) hlt
  have h2 : f * 2 ^ (k + 1) ≤ f * 2 ^ j := Nat.mul_le_mul_left f h1
  have h3 : f * 2 ^ (k + 1) = gk * 2 := by rw [hgk, Nat.pow_succ, Nat.mul_assoc]
  omega

theorem sub_eq16 (S : Int) (g j : Nat) (s0 : 0 ≤ S) (s1 : S ≤ 1) (g0 : 1024 ≤ g) (g1 : g < 2048) (j1 : j ≤ 10) :
    bits .or .u64 (bits .or .u64 (S * 9223372036854775808) ((-14 - (j : Int) + 1023) * 4503599627370496)) (IntKind.u64.wrap (bits .and .u64 (g : Int) 1023 * 4398046511104)) = pk S (1009 - (j : Int)) (((g : Int) - 1024) * 4398046511104) := by
  rw [u64_mask 10 (g : Int) 1023 (by omega) (by omega) (by omega) (by omega), show (g : Int) % 2 ^ 10 = (g : Int) - 1024 by omega, u64_keep (((g : Int) - 1024) * 4398046511104) (by omega) (by omega), show (-14 - (j : Int) + 1023) = 1009 - (j : Int) by omega]
  exact or_pk S (1009 - (j : Int)) (((g : Int) - 1024) * 4398046511104) s0 s1 (by omega) (by omega) (by omega) (by omega)

set_option maxHeartbeats 1000000 in
theorem wid16_sub (x S : Int) (f g j : Nat) (h0 : 0 ≤ x) (h1 : x < 65536) (hS : bits .and .u64 (x / 32768) 1 = S) (he : bits .and .i64 (x / 1024) 31 = 0) (hf : bits .and .u64 x 1023 = (f : Int))
    (s0 : 0 ≤ S) (s1 : S ≤ 1) (f0 : 1 ≤ f) (f1 : f < 1024) (hj : j ≤ 10) (hg : g = f * 2 ^ j) (g0 : 1024 ≤ g) (g1 : g < 2048) (w : World) :
    Calls Try.prog 12 #[.agg #[.int .i64 5, .int .i64 10], .int .u64 x] w fun e' w' => e' = .returned (.int .u64 (pk S (1009 - (j : Int)) (((g : Int) - 1024) * 4398046511104))) ∧ Grown w w' := by
  have HH : Hid (bits .or .u64 (bits .or .u64 (S * 9223372036854775808) ((-14 - (j : Int) + 1023) * 4503599627370496)) (IntKind.u64.wrap (bits .and .u64 (g : Int) 1023 * 4398046511104)) = pk S (1009 - (j : Int)) (((g : Int) - 1024) * 4398046511104)) := sub_eq16 S g j s0 s1 g0 g1 hj
  have HG : Hid (g = f * 2 ^ j) := hg
  clear hg
  have hz : ((f : Int) == 0) = false := by simp; omega
  go_enter Try.func12, Try.ntmps12
  go_wp2
  go_quiet (fail)
  go_wp2
  go_loop [7, 9] (fun fr ee => ∃ k gk : Nat, k ≤ j ∧ Hid (gk = f * 2 ^ k) ∧ fr = .int .u64 (gk : Int) ∧ ee = .int .i64 (-14 - (k : Int))) (fun _ ee => (intOf ee + 14 + 10).toNat)
  case atStart => exact ⟨0, f, by omega, by show f = f * 2 ^ 0; omega, rfl, rfl⟩
  case round =>
    obtain ⟨k, gk, hk, hgk, rfl, rfl⟩ := hrel
    by_cases hlt : k < j
    · have hsm : gk < 1024 := sub_small 1024 f g j k gk hlt HG.out hgk.out g1
      go_wp2
      go_round
      case rel => exact ⟨k + 1, gk * 2, by omega, by show gk * 2 = f * 2 ^ (k + 1); rw [hgk.out, Nat.pow_succ, Nat.mul_assoc], by go_num, by go_num⟩
      case measure => simp [intOf]; omega
    · obtain rfl : k = j := by omega
      obtain rfl : gk = g := by rw [hgk.out, HG.out]
      go_wp2
      go_ret
      exact ⟨ret_int HH.out, (grown_drewN ((Grown.refl _).alloc _ _)).alloc _ _⟩

theorem sub_eq32 (S : Int) (g j : Nat) (s0 : 0 ≤ S) (s1 : S ≤ 1) (g0 : 8388608 ≤ g) (g1 : g < 16777216) (j1 : j ≤ 23) :
    bits .or .u64 (bits .or .u64 (S * 9223372036854775808) ((-126 - (j : Int) + 1023) * 4503599627370496)) (IntKind.u64.wrap (bits .and .u64 (g : Int) 8388607 * 536870912)) = pk S (897 - (j : Int)) (((g : Int) - 8388608) * 536870912) := by
  rw [u64_mask 23 (g : Int) 8388607 (by omega) (by omega) (by omega) (by omega), show (g : Int) % 2 ^ 23 = (g : Int) - 8388608 by omega, u64_keep (((g : Int) - 8388608) * 536870912) (by omega) (by omega), show (-126 - (j : Int) + 1023) = 897 - (j : Int) by omega]
  exact or_pk S (897 - (j : Int)) (((g : Int) - 8388608) * 536870912) s0 s1 (by omega) (by omega) (by omega) (by omega)

set_option maxHeartbeats 1000000 in
theorem wid32_sub (x S : Int) (f g j : Nat) (h0 : 0 ≤ x) (h1 : x < 4294967296) (hS : bits .and .u64 (x / 2147483648) 1 = S) (he : bits .and .i64 (x / 8388608) 255 = 0) (hf : bits .and .u64 x 8388607 = (f : Int))
    (s0 : 0 ≤ S) (s1 : S ≤ 1) (f0 : 1 ≤ f) (f1 : f < 8388608) (hj : j ≤ 23) (hg : g = f * 2 ^ j) (g0 : 8388608 ≤ g) (g1 : g < 16777216) (w : World) :
    Calls Try.prog 12 #[.agg #[.int .i64 8, .int .i64 23], .int .u64 x] w fun e' w' => e' = .returned (.int .u64 (pk S (897 - (j : Int)) (((g : Int) - 8388608) * 536870912))) ∧ Grown w w' := by
  have HH : Hid (bits .or .u64 (bits .or .u64 (S * 9223372036854775808) ((-126 - (j : Int) + 1023) * 4503599627370496)) (IntKind.u64.wrap (bits .and .u64 (g : Int) 8388607 * 536870912)) = pk S (897 - (j : Int)) (((g : Int) - 8388608) * 536870912)) := sub_eq32 S g j s0 s1 g0 g1 hj
  have HG : Hid (g = f * 2 ^ j) := hg
  clear hg
  have hz : ((f : Int) == 0) = false := by simp; omega
  go_enter Try.func12, Try.ntmps12
  go_wp2
  go_quiet (fail)
  go_wp2
  go_loop [7, 9] (fun fr ee => ∃ k gk : Nat, k ≤ j ∧ Hid (gk = f * 2 ^ k) ∧ fr = .int .u64 (gk : Int) ∧ ee = .int .i64 (-126 - (k : Int))) (fun _ ee => (intOf ee + 126 + 23).toNat)
  case atStart => exact ⟨0, f, by omega, by show f = f * 2 ^ 0; omega, rfl, rfl⟩
  case round =>
    obtain ⟨k, gk, hk, hgk, rfl, rfl⟩ := hrel
    by_cases hlt : k < j
    · have hsm : gk < 8388608 := sub_small 8388608 f g j k gk hlt HG.out hgk.out g1
      go_wp2
      go_round
      case rel => exact ⟨k + 1, gk * 2, by omega, by show gk * 2 = f * 2 ^ (k + 1); rw [hgk.out, Nat.pow_succ, Nat.mul_assoc], by go_num, by go_num⟩
      case measure => simp [intOf]; omega
    · obtain rfl : k = j := by omega
      obtain rfl : gk = g := by rw [hgk.out, HG.out]
      go_wp2
      go_ret
      exact ⟨ret_int HH.out, (grown_drewN ((Grown.refl _).alloc _ _)).alloc _ _⟩

end Go.Proofs.Qxb6603006a
