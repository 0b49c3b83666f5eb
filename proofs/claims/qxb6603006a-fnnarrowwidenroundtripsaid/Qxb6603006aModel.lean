import Derived.Test.Qxb6603006aSub
namespace Go.Proofs.Qxb6603006a
open Go.ChangeShapes Go.WideShapes Go.ChangeAt Go.RowKit
set_option linter.unusedVariables false

theorem fmt_no (a b : Int) (h : ¬ ((a = 5 ∧ b = 10) ∨ (a = 8 ∧ b = 23))) (w : World) :
    Calls Try.prog 7 #[.int .i64 a, .int .i64 b] w fun e w' => e = .returned (.bool false) ∧ w' = w := by
  by_cases ha : a = 5
  · subst ha
    have hb : (b == 10) = false := by simp; omega
    clear h
    go_enter Try.func7, Try.ntmps7
    go_wp2
    go_ret
    exact ⟨rfl, rfl⟩
  · by_cases ha2 : a = 8
    · subst ha2
      have hb : (b == 23) = false := by simp; omega
      clear h
      go_enter Try.func7, Try.ntmps7
      go_wp2
      go_ret
      exact ⟨rfl, rfl⟩
    · have h1 : (a == 5) = false := by simpa using ha
      have h2 : (a == 8) = false := by simpa using ha2
      clear h ha ha2
      go_enter Try.func7, Try.ntmps7
      go_wp2
      go_ret
      exact ⟨rfl, rfl⟩

theorem fmt16 (w : World) :
    Calls Try.prog 7 #[.int .i64 5, .int .i64 10] w fun e w' => e = .returned (.bool true) ∧ w' = w := by
  go_enter Try.func7, Try.ntmps7
  go_wp2
  go_ret
  exact ⟨rfl, rfl⟩

theorem fmt32 (w : World) :
    Calls Try.prog 7 #[.int .i64 8, .int .i64 23] w fun e w' => e = .returned (.bool true) ∧ w' = w := by
  go_enter Try.func7, Try.ntmps7
  go_wp2
  go_ret
  exact ⟨rfl, rfl⟩

/-- The index of the highest bit of m. -/
theorem high_any (m p : Nat) (hp : p ≤ 52) (h1 : 2 ^ p ≤ m) (h2 : m < 2 ^ (p + 1)) (w : World) :
    Calls Try.prog 13 #[.int .u64 (m : Int)] w fun e w' => e = .returned (.int .i64 (p : Int)) ∧ w' = w := by
  have hm : m < 9007199254740992 := Nat.lt_of_lt_of_le h2 (Nat.le_trans (Nat.pow_le_pow_right (by omega) (by omega : p + 1 ≤ 53)) (by omega))
  have H1 : Hid (2 ^ p ≤ m) := h1
  have H2 : Hid (m < 2 ^ (p + 1)) := h2
  clear h1 h2
  go_enter Try.func13, Try.ntmps13
  go_wp2
  go_loop [3, 4] (fun pp tt => ∃ k t : Nat, k ≤ p ∧ Hid (t = m / 2 ^ (k + 1)) ∧ pp = .int .i64 (k : Int) ∧ tt = .int .u64 (t : Int)) (fun pp _ => p - (intOf pp).toNat)
  case atStart => exact ⟨0, m / 2, by omega, by show m / 2 = m / 2 ^ (0 + 1); rfl, rfl, by go_num⟩
  case round =>
    obtain ⟨k, t, hk, ht, rfl, rfl⟩ := hrel
    have htm : t < 9007199254740992 := by rw [ht.out]; exact Nat.lt_of_le_of_lt (Nat.div_le_self _ _) hm
    by_cases hlt : k < p
    · have ht0 : 1 ≤ t := by
        rw [ht.out, Nat.le_div_iff_mul_le (Nat.pow_pos (by omega)), Nat.one_mul]
        exact Nat.le_trans (Nat.pow_le_pow_right (by omega) hlt) H1.out
      have ht1 : ((t : Int) != 0) = true := by simp; omega
      go_wp2
      go_round
      case rel => exact ⟨k + 1, t / 2, by omega, by show t / 2 = m / 2 ^ (k + 1 + 1); rw [ht.out, Nat.div_div_eq_div_mul, Nat.pow_succ 2 (k + 1)], by go_num, by go_num⟩
      case measure => simp [intOf]; omega
    · obtain rfl : k = p := by omega
      obtain rfl : t = 0 := by rw [ht.out]; exact Nat.div_eq_of_lt H2.out
      go_wp2
      go_ret
      exact ⟨rfl, rfl⟩

theorem high_int (z q : Int) (m p : Nat) (hz : z = (m : Int)) (hq : q = (p : Int)) (hp : p ≤ 52) (h1 : 2 ^ p ≤ m) (h2 : m < 2 ^ (p + 1)) (w : World) :
    Calls Try.prog 13 #[.int .u64 z] w fun e w' => e = .returned (.int .i64 q) ∧ w' = w := by
  subst hz hq
  exact high_any m p hp h1 h2 w

theorem sub_high (F f g j p : Nat) (hp : p + j = F) (hg : g = f * 2 ^ j) (g0 : 2 ^ F ≤ g) (g1 : g < 2 * 2 ^ F) : 2 ^ p ≤ f ∧ f < 2 ^ (p + 1) := by
  have e : 2 ^ F = 2 ^ p * 2 ^ j := by rw [← hp, Nat.pow_add]
  have hpos : 0 < 2 ^ j := Nat.pow_pos (by omega)
  rw [e, hg] at g0
  have e2 : 2 * 2 ^ F = 2 ^ (p + 1) * 2 ^ j := by rw [e, Nat.pow_succ, Nat.mul_comm (2 ^ p) 2, Nat.mul_assoc]
  rw [e2, hg] at g1
  exact ⟨Nat.le_of_mul_le_mul_right g0 hpos, Nat.lt_of_mul_lt_mul_right g1⟩

theorem exists_norm (F f : Nat) (f0 : 1 ≤ f) (f1 : f < 2 ^ F) : ∃ j g p, p + j = F ∧ 1 ≤ j ∧ g = f * 2 ^ j ∧ 2 ^ F ≤ g ∧ g < 2 * 2 ^ F := by
  have hp1 : 2 ^ f.log2 ≤ f := Nat.log2_self_le (by omega)
  have hp2 : f < 2 ^ (f.log2 + 1) := Nat.lt_log2_self
  have hlt : f.log2 < F := by
    apply Decidable.byContradiction
    intro h
    have : 2 ^ F ≤ 2 ^ f.log2 := Nat.pow_le_pow_right (by omega) (by omega)
    omega
  refine ⟨F - f.log2, f * 2 ^ (F - f.log2), f.log2, by omega, by omega, rfl, ?_, ?_⟩
  · have e : 2 ^ F = 2 ^ f.log2 * 2 ^ (F - f.log2) := by rw [← Nat.pow_add]; congr 1; omega
    rw [e]
    exact Nat.mul_le_mul_right _ hp1
  · have e : 2 * 2 ^ F = 2 ^ (f.log2 + 1) * 2 ^ (F - f.log2) := by rw [← Nat.pow_add, Nat.mul_comm, ← Nat.pow_succ]; congr 1; omega
    rw [e]
    exact Nat.mul_lt_mul_of_pos_right hp2 (Nat.pow_pos (by omega))

set_option maxHeartbeats 1000000 in
theorem mod16_top (x S f : Int) (h0 : 0 ≤ x) (h1 : x < 65536) (hS : bits .and .u64 (x / 32768) 1 = S) (he : bits .and .u64 (x / 1024) 31 = 31) (hf : bits .and .u64 x 1023 = f)
    (s0 : 0 ≤ S) (s1 : S ≤ 1) (f0 : 0 ≤ f) (f1 : f < 1024) (w : World) :
    Calls Try.prog 9 #[.int .i64 5, .int .i64 10, .int .u64 x] w fun e w' => e = .returned (.int .u64 (pk S 2047 (f * 4398046511104))) ∧ w' = w := by
  have HH : Hid (bits .or .u64 (bits .or .u64 (S * 9223372036854775808) 9218868437227405312) (f * 4398046511104) = pk S 2047 (f * 4398046511104)) := top_eq16 S f s0 s1 f0 f1
  go_enter Try.func9, Try.ntmps9
  go_wp2
  go_ret
  exact ⟨ret_int HH.out, rfl⟩

set_option maxHeartbeats 1000000 in
theorem mod16_zero (x S : Int) (h0 : 0 ≤ x) (h1 : x < 65536) (hS : bits .and .u64 (x / 32768) 1 = S) (he : bits .and .u64 (x / 1024) 31 = 0) (hf : bits .and .u64 x 1023 = 0)
    (s0 : 0 ≤ S) (s1 : S ≤ 1) (w : World) :
    Calls Try.prog 9 #[.int .i64 5, .int .i64 10, .int .u64 x] w fun e w' => e = .returned (.int .u64 (pk S 0 0)) ∧ w' = w := by
  have HH : Hid (S * 9223372036854775808 = pk S 0 0) := by
    show S * 9223372036854775808 = pk S 0 0
    unfold pk; omega
  go_enter Try.func9, Try.ntmps9
  go_wp2
  go_ret
  exact ⟨ret_int HH.out, rfl⟩

theorem mnorm_eq16 (S e f : Int) (s0 : 0 ≤ S) (s1 : S ≤ 1) (e0 : 1 ≤ e) (e1 : e < 31) (f0 : 0 ≤ f) (f1 : f < 1024) :
    bits .or .u64 (bits .or .u64 (S * 9223372036854775808) ((e - 15 + 1023) * 4503599627370496)) (bits .and .u64 ((1024 + f) * 4398046511104) 4503599627370495) = pk S (e + 1008) (f * 4398046511104) := by
  rw [u64_mask 52 ((1024 + f) * 4398046511104) 4503599627370495 (by omega) (by omega) (by omega) (by omega), show ((1024 + f) * 4398046511104) % 2 ^ 52 = f * 4398046511104 by omega, show e - 15 + 1023 = e + 1008 by omega]
  exact or_pk S (e + 1008) (f * 4398046511104) s0 s1 (by omega) (by omega) (by omega) (by omega)

set_option maxHeartbeats 1000000 in
theorem mod16_norm (x S e f : Int) (h0 : 0 ≤ x) (h1 : x < 65536) (hS : bits .and .u64 (x / 32768) 1 = S) (he : bits .and .u64 (x / 1024) 31 = e) (hf : bits .and .u64 x 1023 = f)
    (s0 : 0 ≤ S) (s1 : S ≤ 1) (e0 : 1 ≤ e) (e1 : e < 31) (f0 : 0 ≤ f) (f1 : f < 1024) (w : World) :
    Calls Try.prog 9 #[.int .i64 5, .int .i64 10, .int .u64 x] w fun e' w' => e' = .returned (.int .u64 (pk S (e + 1008) (f * 4398046511104))) ∧ w' = w := by
  have hm : bits .or .u64 1024 f = 1024 + f := or_join 10 1024 f (by omega) (by omega) (by omega) (by omega) (by omega) (by omega)
  have HH : Hid (bits .or .u64 (bits .or .u64 (S * 9223372036854775808) ((e - 15 + 1023) * 4503599627370496)) (bits .and .u64 ((1024 + f) * 4398046511104) 4503599627370495) = pk S (e + 1008) (f * 4398046511104)) := mnorm_eq16 S e f s0 s1 e0 e1 f0 f1
  go_enter Try.func9, Try.ntmps9
  go_wp2_with fail
  refine (high_int (1024 + f) 10 (1024 + f).toNat 10 (by omega) rfl (by omega) (by omega) (by omega) _).mono ?_
  rintro e' w' ⟨rfl, rfl⟩
  go_wp2
  go_ret
  exact ⟨ret_int HH.out, rfl⟩

theorem msub_eq16 (S : Int) (f g j p : Nat) (s0 : 0 ≤ S) (s1 : S ≤ 1) (hp : p + j = 10) (hg : g = f * 2 ^ j) (g0 : 1024 ≤ g) (g1 : g < 2048) :
    bits .or .u64 (bits .or .u64 (S * 9223372036854775808) ((-24 + (p : Int) + 1023) * 4503599627370496)) (bits .and .u64 (IntKind.u64.wrap ((f : Int) * 2 ^ (52 - p))) 4503599627370495) = pk S (1009 - (j : Int)) (((g : Int) - 1024) * 4398046511104) := by
  have e1 : (f : Int) * 2 ^ (52 - p) = (g : Int) * 4398046511104 := by
    have e2 : f * 2 ^ (52 - p) = g * 4398046511104 := by
      rw [hg, show 52 - p = j + 42 by omega, Nat.pow_add, ← Nat.mul_assoc]
    have := congrArg (fun n : Nat => (n : Int)) e2
    simp only [Int.natCast_mul, Int.natCast_pow] at this
    exact this
  rw [e1, u64_keep ((g : Int) * 4398046511104) (by omega) (by omega), u64_mask 52 ((g : Int) * 4398046511104) 4503599627370495 (by omega) (by omega) (by omega) (by omega), show ((g : Int) * 4398046511104) % 2 ^ 52 = ((g : Int) - 1024) * 4398046511104 by omega,
    show -24 + (p : Int) + 1023 = 1009 - (j : Int) by omega]
  exact or_pk S (1009 - (j : Int)) (((g : Int) - 1024) * 4398046511104) s0 s1 (by omega) (by omega) (by omega) (by omega)

set_option maxHeartbeats 1000000 in
theorem mod16_sub (x S : Int) (f g j p : Nat) (h0 : 0 ≤ x) (h1 : x < 65536) (hS : bits .and .u64 (x / 32768) 1 = S) (he : bits .and .u64 (x / 1024) 31 = 0) (hf : bits .and .u64 x 1023 = (f : Int))
    (s0 : 0 ≤ S) (s1 : S ≤ 1) (f0 : 1 ≤ f) (f1 : f < 1024) (hp : p + j = 10) (hg : g = f * 2 ^ j) (g0 : 1024 ≤ g) (g1 : g < 2048) (w : World) :
    Calls Try.prog 9 #[.int .i64 5, .int .i64 10, .int .u64 x] w fun e' w' => e' = .returned (.int .u64 (pk S (1009 - (j : Int)) (((g : Int) - 1024) * 4398046511104))) ∧ w' = w := by
  have HH : Hid (bits .or .u64 (bits .or .u64 (S * 9223372036854775808) ((-24 + (p : Int) + 1023) * 4503599627370496)) (bits .and .u64 (IntKind.u64.wrap ((f : Int) * 2 ^ (52 - p))) 4503599627370495) = pk S (1009 - (j : Int)) (((g : Int) - 1024) * 4398046511104)) := msub_eq16 S f g j p s0 s1 hp hg g0 g1
  obtain ⟨hp1, hp2⟩ := sub_high 10 f g j p hp hg (by omega) (by omega)
  have H1 : Hid (2 ^ p ≤ f) := hp1
  have H2 : Hid (f < 2 ^ (p + 1)) := hp2
  have hp' : p ≤ 10 := by omega
  clear hp1 hp2 hg hp g0 g1
  have hz : ((f : Int) == 0) = false := by simp; omega
  go_enter Try.func9, Try.ntmps9
  go_wp2_with fail
  refine (high_any f p (by omega) H1.out H2.out _).mono ?_
  rintro e' w' ⟨rfl, rfl⟩
  go_wp2
  go_ret
  exact ⟨ret_int HH.out, rfl⟩

/-- The fields of x. -/
theorem fields16 (x : Int) (h0 : 0 ≤ x) (h1 : x < 65536) : bits .and .u64 (x / 32768) 1 = x / 32768 ∧ bits .and .i64 (x / 1024) 31 = x / 1024 % 32 ∧ bits .and .u64 (x / 1024) 31 = x / 1024 % 32 ∧ bits .and .u64 x 1023 = x % 1024 := by
  refine ⟨?_, i64_mask 5 (x / 1024) 31 (by omega) (by omega) (by omega) (by omega), u64_mask 5 (x / 1024) 31 (by omega) (by omega) (by omega) (by omega), u64_mask 10 x 1023 (by omega) (by omega) h0 (by omega)⟩
  rw [u64_mask 1 (x / 32768) 1 (by omega) (by omega) (by omega) (by omega)]
  omega

theorem zzWiden16 (x v : Int) (H : ∀ w : World, Calls Try.prog 12 #[.agg #[.int .i64 5, .int .i64 10], .int .u64 x] w fun e w' => e = .returned (.int .u64 v) ∧ Grown w w') (w : World) :
    Calls Try.prog 8 #[.int .i64 5, .int .i64 10, .int .u64 x] w fun e w' => e = .returned (.int .u64 v) ∧ Grown w w' := by
  have HH : Hid (∀ w : World, Calls Try.prog 12 #[.agg #[.int .i64 5, .int .i64 10], .int .u64 x] w fun e w' => e = .returned (.int .u64 v) ∧ Grown w w') := H
  clear H
  go_enter Try.func8, Try.ntmps8
  go_wp2_with fail
  refine (HH.out _).mono ?_
  rintro e w' ⟨rfl, hg⟩
  go_wp2
  go_ret
  exact ⟨rfl, hg⟩

/-- widen and the model give one number. -/
theorem both16 (x : Int) (h0 : 0 ≤ x) (h1 : x < 65536) : ∃ v : Int, (∀ w : World, Calls Try.prog 8 #[.int .i64 5, .int .i64 10, .int .u64 x] w fun e w' => e = .returned (.int .u64 v) ∧ Grown w w') ∧
    (∀ w : World, Calls Try.prog 9 #[.int .i64 5, .int .i64 10, .int .u64 x] w fun e w' => e = .returned (.int .u64 v) ∧ w' = w) := by
  obtain ⟨a1, a2, a3, a4⟩ := fields16 x h0 h1
  by_cases ht : x / 1024 % 32 = 31
  · rw [ht] at a2 a3
    exact ⟨_, zzWiden16 x _ (wid16_top x (x / 32768) (x % 1024) h0 h1 a1 a2 a4 (by omega) (by omega) (by omega) (by omega)), mod16_top x (x / 32768) (x % 1024) h0 h1 a1 a3 a4 (by omega) (by omega) (by omega) (by omega)⟩
  · by_cases hz : x / 1024 % 32 = 0
    · rw [hz] at a2 a3
      by_cases hf : x % 1024 = 0
      · rw [hf] at a4
        exact ⟨_, zzWiden16 x _ (wid16_zero x (x / 32768) h0 h1 a1 a2 a4 (by omega) (by omega)), mod16_zero x (x / 32768) h0 h1 a1 a3 a4 (by omega) (by omega)⟩
      · obtain ⟨f, hf'⟩ : ∃ f : Nat, x % 1024 = (f : Int) := ⟨(x % 1024).toNat, by omega⟩
        rw [hf'] at a4
        obtain ⟨j, g, p, hp, hj, hg, g0, g1⟩ := exists_norm 10 f (by omega) (by omega)
        exact ⟨_, zzWiden16 x _ (wid16_sub x (x / 32768) f g j h0 h1 a1 a2 a4 (by omega) (by omega) (by omega) (by omega) (by omega) hg (by omega) (by omega)), mod16_sub x (x / 32768) f g j p h0 h1 a1 a3 a4 (by omega) (by omega) (by omega) (by omega) hp hg (by omega) (by omega)⟩
    · exact ⟨_, zzWiden16 x _ (wid16_norm x (x / 32768) (x / 1024 % 32) (x % 1024) h0 h1 a1 a2 a4 (by omega) (by omega) (by omega) (by omega) (by omega) (by omega)), mod16_norm x (x / 32768) (x / 1024 % 32) (x % 1024) h0 h1 a1 a3 a4 (by omega) (by omega) (by omega) (by omega) (by omega) (by omega)⟩

set_option maxHeartbeats 1000000 in
theorem mod32_top (x S f : Int) (h0 : 0 ≤ x) (h1 : x < 4294967296) (hS : bits .and .u64 (x / 2147483648) 1 = S) (he : bits .and .u64 (x / 8388608) 255 = 255) (hf : bits .and .u64 x 8388607 = f)
    (s0 : 0 ≤ S) (s1 : S ≤ 1) (f0 : 0 ≤ f) (f1 : f < 8388608) (w : World) :
    Calls Try.prog 9 #[.int .i64 8, .int .i64 23, .int .u64 x] w fun e w' => e = .returned (.int .u64 (pk S 2047 (f * 536870912))) ∧ w' = w := by
  have HH : Hid (bits .or .u64 (bits .or .u64 (S * 9223372036854775808) 9218868437227405312) (f * 536870912) = pk S 2047 (f * 536870912)) := top_eq32 S f s0 s1 f0 f1
  go_enter Try.func9, Try.ntmps9
  go_wp2
  go_ret
  exact ⟨ret_int HH.out, rfl⟩

set_option maxHeartbeats 1000000 in
theorem mod32_zero (x S : Int) (h0 : 0 ≤ x) (h1 : x < 4294967296) (hS : bits .and .u64 (x / 2147483648) 1 = S) (he : bits .and .u64 (x / 8388608) 255 = 0) (hf : bits .and .u64 x 8388607 = 0)
    (s0 : 0 ≤ S) (s1 : S ≤ 1) (w : World) :
    Calls Try.prog 9 #[.int .i64 8, .int .i64 23, .int .u64 x] w fun e w' => e = .returned (.int .u64 (pk S 0 0)) ∧ w' = w := by
  have HH : Hid (S * 9223372036854775808 = pk S 0 0) := by
    show S * 9223372036854775808 = pk S 0 0
    unfold pk; omega
  go_enter Try.func9, Try.ntmps9
  go_wp2
  go_ret
  exact ⟨ret_int HH.out, rfl⟩

theorem mnorm_eq32 (S e f : Int) (s0 : 0 ≤ S) (s1 : S ≤ 1) (e0 : 1 ≤ e) (e1 : e < 255) (f0 : 0 ≤ f) (f1 : f < 8388608) :
    bits .or .u64 (bits .or .u64 (S * 9223372036854775808) ((e - 127 + 1023) * 4503599627370496)) (bits .and .u64 ((8388608 + f) * 536870912) 4503599627370495) = pk S (e + 896) (f * 536870912) := by
  rw [u64_mask 52 ((8388608 + f) * 536870912) 4503599627370495 (by omega) (by omega) (by omega) (by omega), show ((8388608 + f) * 536870912) % 2 ^ 52 = f * 536870912 by omega, show e - 127 + 1023 = e + 896 by omega]
  exact or_pk S (e + 896) (f * 536870912) s0 s1 (by omega) (by omega) (by omega) (by omega)

set_option maxHeartbeats 1000000 in
theorem mod32_norm (x S e f : Int) (h0 : 0 ≤ x) (h1 : x < 4294967296) (hS : bits .and .u64 (x / 2147483648) 1 = S) (he : bits .and .u64 (x / 8388608) 255 = e) (hf : bits .and .u64 x 8388607 = f)
    (s0 : 0 ≤ S) (s1 : S ≤ 1) (e0 : 1 ≤ e) (e1 : e < 255) (f0 : 0 ≤ f) (f1 : f < 8388608) (w : World) :
    Calls Try.prog 9 #[.int .i64 8, .int .i64 23, .int .u64 x] w fun e' w' => e' = .returned (.int .u64 (pk S (e + 896) (f * 536870912))) ∧ w' = w := by
  have hm : bits .or .u64 8388608 f = 8388608 + f := or_join 23 8388608 f (by omega) (by omega) (by omega) (by omega) (by omega) (by omega)
  have HH : Hid (bits .or .u64 (bits .or .u64 (S * 9223372036854775808) ((e - 127 + 1023) * 4503599627370496)) (bits .and .u64 ((8388608 + f) * 536870912) 4503599627370495) = pk S (e + 896) (f * 536870912)) := mnorm_eq32 S e f s0 s1 e0 e1 f0 f1
  go_enter Try.func9, Try.ntmps9
  go_wp2_with fail
  refine (high_int (8388608 + f) 23 (8388608 + f).toNat 23 (by omega) rfl (by omega) (by omega) (by omega) _).mono ?_
  rintro e' w' ⟨rfl, rfl⟩
  go_wp2
  go_ret
  exact ⟨ret_int HH.out, rfl⟩

theorem msub_eq32 (S : Int) (f g j p : Nat) (s0 : 0 ≤ S) (s1 : S ≤ 1) (hp : p + j = 23) (hg : g = f * 2 ^ j) (g0 : 8388608 ≤ g) (g1 : g < 16777216) :
    bits .or .u64 (bits .or .u64 (S * 9223372036854775808) ((-149 + (p : Int) + 1023) * 4503599627370496)) (bits .and .u64 (IntKind.u64.wrap ((f : Int) * 2 ^ (52 - p))) 4503599627370495) = pk S (897 - (j : Int)) (((g : Int) - 8388608) * 536870912) := by
  have e1 : (f : Int) * 2 ^ (52 - p) = (g : Int) * 536870912 := by
    have e2 : f * 2 ^ (52 - p) = g * 536870912 := by
      rw [hg, show 52 - p = j + 29 by omega, Nat.pow_add, ← Nat.mul_assoc]
    have := congrArg (fun n : Nat => (n : Int)) e2
    simp only [Int.natCast_mul, Int.natCast_pow] at this
    exact this
  rw [e1, u64_keep ((g : Int) * 536870912) (by omega) (by omega), u64_mask 52 ((g : Int) * 536870912) 4503599627370495 (by omega) (by omega) (by omega) (by omega), show ((g : Int) * 536870912) % 2 ^ 52 = ((g : Int) - 8388608) * 536870912 by omega,
    show -149 + (p : Int) + 1023 = 897 - (j : Int) by omega]
  exact or_pk S (897 - (j : Int)) (((g : Int) - 8388608) * 536870912) s0 s1 (by omega) (by omega) (by omega) (by omega)

set_option maxHeartbeats 1000000 in
theorem mod32_sub (x S : Int) (f g j p : Nat) (h0 : 0 ≤ x) (h1 : x < 4294967296) (hS : bits .and .u64 (x / 2147483648) 1 = S) (he : bits .and .u64 (x / 8388608) 255 = 0) (hf : bits .and .u64 x 8388607 = (f : Int))
    (s0 : 0 ≤ S) (s1 : S ≤ 1) (f0 : 1 ≤ f) (f1 : f < 8388608) (hp : p + j = 23) (hg : g = f * 2 ^ j) (g0 : 8388608 ≤ g) (g1 : g < 16777216) (w : World) :
    Calls Try.prog 9 #[.int .i64 8, .int .i64 23, .int .u64 x] w fun e' w' => e' = .returned (.int .u64 (pk S (897 - (j : Int)) (((g : Int) - 8388608) * 536870912))) ∧ w' = w := by
  have HH : Hid (bits .or .u64 (bits .or .u64 (S * 9223372036854775808) ((-149 + (p : Int) + 1023) * 4503599627370496)) (bits .and .u64 (IntKind.u64.wrap ((f : Int) * 2 ^ (52 - p))) 4503599627370495) = pk S (897 - (j : Int)) (((g : Int) - 8388608) * 536870912)) := msub_eq32 S f g j p s0 s1 hp hg g0 g1
  obtain ⟨hp1, hp2⟩ := sub_high 23 f g j p hp hg (by omega) (by omega)
  have H1 : Hid (2 ^ p ≤ f) := hp1
  have H2 : Hid (f < 2 ^ (p + 1)) := hp2
  have hp' : p ≤ 23 := by omega
  clear hp1 hp2 hg hp g0 g1
  have hz : ((f : Int) == 0) = false := by simp; omega
  go_enter Try.func9, Try.ntmps9
  go_wp2_with fail
  refine (high_any f p (by omega) H1.out H2.out _).mono ?_
  rintro e' w' ⟨rfl, rfl⟩
  go_wp2
  go_ret
  exact ⟨ret_int HH.out, rfl⟩

/-- The fields of x. -/
theorem fields32 (x : Int) (h0 : 0 ≤ x) (h1 : x < 4294967296) : bits .and .u64 (x / 2147483648) 1 = x / 2147483648 ∧ bits .and .i64 (x / 8388608) 255 = x / 8388608 % 256 ∧ bits .and .u64 (x / 8388608) 255 = x / 8388608 % 256 ∧ bits .and .u64 x 8388607 = x % 8388608 := by
  refine ⟨?_, i64_mask 8 (x / 8388608) 255 (by omega) (by omega) (by omega) (by omega), u64_mask 8 (x / 8388608) 255 (by omega) (by omega) (by omega) (by omega), u64_mask 23 x 8388607 (by omega) (by omega) h0 (by omega)⟩
  rw [u64_mask 1 (x / 2147483648) 1 (by omega) (by omega) (by omega) (by omega)]
  omega

theorem zzWiden32 (x v : Int) (H : ∀ w : World, Calls Try.prog 12 #[.agg #[.int .i64 8, .int .i64 23], .int .u64 x] w fun e w' => e = .returned (.int .u64 v) ∧ Grown w w') (w : World) :
    Calls Try.prog 8 #[.int .i64 8, .int .i64 23, .int .u64 x] w fun e w' => e = .returned (.int .u64 v) ∧ Grown w w' := by
  have HH : Hid (∀ w : World, Calls Try.prog 12 #[.agg #[.int .i64 8, .int .i64 23], .int .u64 x] w fun e w' => e = .returned (.int .u64 v) ∧ Grown w w') := H
  clear H
  go_enter Try.func8, Try.ntmps8
  go_wp2_with fail
  refine (HH.out _).mono ?_
  rintro e w' ⟨rfl, hg⟩
  go_wp2
  go_ret
  exact ⟨rfl, hg⟩

/-- widen and the model give one number. -/
theorem both32 (x : Int) (h0 : 0 ≤ x) (h1 : x < 4294967296) : ∃ v : Int, (∀ w : World, Calls Try.prog 8 #[.int .i64 8, .int .i64 23, .int .u64 x] w fun e w' => e = .returned (.int .u64 v) ∧ Grown w w') ∧
    (∀ w : World, Calls Try.prog 9 #[.int .i64 8, .int .i64 23, .int .u64 x] w fun e w' => e = .returned (.int .u64 v) ∧ w' = w) := by
  obtain ⟨a1, a2, a3, a4⟩ := fields32 x h0 h1
  by_cases ht : x / 8388608 % 256 = 255
  · rw [ht] at a2 a3
    exact ⟨_, zzWiden32 x _ (wid32_top x (x / 2147483648) (x % 8388608) h0 h1 a1 a2 a4 (by omega) (by omega) (by omega) (by omega)), mod32_top x (x / 2147483648) (x % 8388608) h0 h1 a1 a3 a4 (by omega) (by omega) (by omega) (by omega)⟩
  · by_cases hz : x / 8388608 % 256 = 0
    · rw [hz] at a2 a3
      by_cases hf : x % 8388608 = 0
      · rw [hf] at a4
        exact ⟨_, zzWiden32 x _ (wid32_zero x (x / 2147483648) h0 h1 a1 a2 a4 (by omega) (by omega)), mod32_zero x (x / 2147483648) h0 h1 a1 a3 a4 (by omega) (by omega)⟩
      · obtain ⟨f, hf'⟩ : ∃ f : Nat, x % 8388608 = (f : Int) := ⟨(x % 8388608).toNat, by omega⟩
        rw [hf'] at a4
        obtain ⟨j, g, p, hp, hj, hg, g0, g1⟩ := exists_norm 23 f (by omega) (by omega)
        exact ⟨_, zzWiden32 x _ (wid32_sub x (x / 2147483648) f g j h0 h1 a1 a2 a4 (by omega) (by omega) (by omega) (by omega) (by omega) hg (by omega) (by omega)), mod32_sub x (x / 2147483648) f g j p h0 h1 a1 a3 a4 (by omega) (by omega) (by omega) (by omega) hp hg (by omega) (by omega)⟩
    · exact ⟨_, zzWiden32 x _ (wid32_norm x (x / 2147483648) (x / 8388608 % 256) (x % 8388608) h0 h1 a1 a2 a4 (by omega) (by omega) (by omega) (by omega) (by omega) (by omega)), mod32_norm x (x / 2147483648) (x / 8388608 % 256) (x % 8388608) h0 h1 a1 a3 a4 (by omega) (by omega) (by omega) (by omega) (by omega) (by omega)⟩

end Go.Proofs.Qxb6603006a
