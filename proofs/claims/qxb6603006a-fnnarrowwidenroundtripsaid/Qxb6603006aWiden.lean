import Derived.Test.Qxb6603006aPlain
import Derived.Deep.QuietTactic
import Derived.BigQuiet
import Derived.Deep.RegionWith
import Derived.WalkLawsBesides
namespace Go.Proofs.Qxb6603006a
open Go.ChangeShapes Go.WideShapes Go.ChangeAt Go.RowKit

theorem grown_drewN {W w : World} {n : Nat} (h : Grown W w) : Grown W (w.drewN n) := h
theorem grown_trans {a b c : World} (h : Grown a b) (k : Grown b c) : Grown a c :=
  ⟨World.keptBut_trans h.1 k.1, fun x => (k.2.1 x).trans (h.2.1 x), Nat.le_trans h.2.2 k.2.2⟩

theorem bias16 (w : World) : Calls Try.prog 15 #[.agg #[.int .i64 5, .int .i64 10]] w fun e w' => e = .returned (.int .i64 15) ∧ w' = w.alloc (.cells #[.int .i64 5, .int .i64 10] 31) := by
  go_enter Try.func15, Try.ntmps15
  go_wp2
  go_ret
  exact ⟨rfl, rfl⟩

theorem top_eq16 (S f : Int) (s0 : 0 ≤ S) (s1 : S ≤ 1) (f0 : 0 ≤ f) (f1 : f < 1024) :
    bits .or .u64 (bits .or .u64 (S * 9223372036854775808) 9218868437227405312) (f * 4398046511104) = pk S 2047 (f * 4398046511104) := by
  exact or_pk S 2047 (f * 4398046511104) s0 s1 (by omega) (by omega) (by omega) (by omega)

theorem norm_eq16 (S e f : Int) (s0 : 0 ≤ S) (s1 : S ≤ 1) (e0 : 1 ≤ e) (e1 : e < 31) (f0 : 0 ≤ f) (f1 : f < 1024) :
    bits .or .u64 (bits .or .u64 (S * 9223372036854775808) (IntKind.u64.wrap (IntKind.u64.wrap (IntKind.i64.wrap (IntKind.i64.wrap (e - 15) + 1023)) * 4503599627370496))) (IntKind.u64.wrap (f * 4398046511104)) = pk S (e + 1008) (f * 4398046511104) := by
  rw [u64_keep (f * 4398046511104) (by omega) (by omega), i64_keep (e - 15) (by omega) (by omega), i64_keep (e - 15 + 1023) (by omega) (by omega), u64_keep (e - 15 + 1023) (by omega) (by omega), u64_keep ((e - 15 + 1023) * 4503599627370496) (by omega) (by omega),
    show e - 15 + 1023 = e + 1008 by omega]
  exact or_pk S (e + 1008) (f * 4398046511104) s0 s1 (by omega) (by omega) (by omega) (by omega)

set_option maxHeartbeats 1000000 in
theorem wid16_top (x S f : Int) (h0 : 0 ≤ x) (h1 : x < 65536) (hS : bits .and .u64 (x / 32768) 1 = S) (he : bits .and .i64 (x / 1024) 31 = 31) (hf : bits .and .u64 x 1023 = f)
    (s0 : 0 ≤ S) (s1 : S ≤ 1) (f0 : 0 ≤ f) (f1 : f < 1024) (w : World) :
    Calls Try.prog 12 #[.agg #[.int .i64 5, .int .i64 10], .int .u64 x] w fun e w' => e = .returned (.int .u64 (pk S 2047 (f * 4398046511104))) ∧ Grown w w' := by
  have HH : Hid (bits .or .u64 (bits .or .u64 (S * 9223372036854775808) 9218868437227405312) (f * 4398046511104) = pk S 2047 (f * 4398046511104)) := top_eq16 S f s0 s1 f0 f1
  go_enter Try.func12, Try.ntmps12
  go_wp2
  go_quiet (fail)
  go_wp2
  go_ret
  exact ⟨ret_int HH.out, grown_drewN ((Grown.refl _).alloc _ _)⟩

set_option maxHeartbeats 1000000 in
theorem wid16_zero (x S : Int) (h0 : 0 ≤ x) (h1 : x < 65536) (hS : bits .and .u64 (x / 32768) 1 = S) (he : bits .and .i64 (x / 1024) 31 = 0) (hf : bits .and .u64 x 1023 = 0)
    (s0 : 0 ≤ S) (s1 : S ≤ 1) (w : World) :
    Calls Try.prog 12 #[.agg #[.int .i64 5, .int .i64 10], .int .u64 x] w fun e w' => e = .returned (.int .u64 (pk S 0 0)) ∧ Grown w w' := by
  have HH : Hid (S * 9223372036854775808 = pk S 0 0) := by
    show S * 9223372036854775808 = pk S 0 0
    unfold pk; omega
  go_enter Try.func12, Try.ntmps12
  go_wp2
  go_quiet (fail)
  go_wp2
  go_ret
  exact ⟨ret_int HH.out, grown_drewN ((Grown.refl _).alloc _ _)⟩

set_option maxHeartbeats 1000000 in
theorem wid16_norm (x S e f : Int) (h0 : 0 ≤ x) (h1 : x < 65536) (hS : bits .and .u64 (x / 32768) 1 = S) (he : bits .and .i64 (x / 1024) 31 = e) (hf : bits .and .u64 x 1023 = f)
    (s0 : 0 ≤ S) (s1 : S ≤ 1) (e0 : 1 ≤ e) (e1 : e < 31) (f0 : 0 ≤ f) (f1 : f < 1024) (w : World) :
    Calls Try.prog 12 #[.agg #[.int .i64 5, .int .i64 10], .int .u64 x] w fun e' w' => e' = .returned (.int .u64 (pk S (e + 1008) (f * 4398046511104))) ∧ Grown w w' := by
  have HH : Hid (bits .or .u64 (bits .or .u64 (S * 9223372036854775808) (IntKind.u64.wrap (IntKind.u64.wrap (IntKind.i64.wrap (IntKind.i64.wrap (e - 15) + 1023)) * 4503599627370496))) (IntKind.u64.wrap (f * 4398046511104)) = pk S (e + 1008) (f * 4398046511104)) := norm_eq16 S e f s0 s1 e0 e1 f0 f1
  go_enter Try.func12, Try.ntmps12
  go_wp2
  go_quiet (fail)
  go_wp2
  go_region_with (go_at_call 15; refine (bias16 _).mono ?_; rintro e w' ⟨rfl, rfl⟩)
  go_simp
  go_wp2
  go_ret
  exact ⟨ret_int HH.out, (grown_drewN ((Grown.refl _).alloc _ _)).alloc _ _⟩

theorem bias32 (w : World) : Calls Try.prog 15 #[.agg #[.int .i64 8, .int .i64 23]] w fun e w' => e = .returned (.int .i64 127) ∧ w' = w.alloc (.cells #[.int .i64 8, .int .i64 23] 31) := by
  go_enter Try.func15, Try.ntmps15
  go_wp2
  go_ret
  exact ⟨rfl, rfl⟩

theorem top_eq32 (S f : Int) (s0 : 0 ≤ S) (s1 : S ≤ 1) (f0 : 0 ≤ f) (f1 : f < 8388608) :
    bits .or .u64 (bits .or .u64 (S * 9223372036854775808) 9218868437227405312) (f * 536870912) = pk S 2047 (f * 536870912) := by
  exact or_pk S 2047 (f * 536870912) s0 s1 (by omega) (by omega) (by omega) (by omega)

theorem norm_eq32 (S e f : Int) (s0 : 0 ≤ S) (s1 : S ≤ 1) (e0 : 1 ≤ e) (e1 : e < 255) (f0 : 0 ≤ f) (f1 : f < 8388608) :
    bits .or .u64 (bits .or .u64 (S * 9223372036854775808) (IntKind.u64.wrap (IntKind.u64.wrap (IntKind.i64.wrap (IntKind.i64.wrap (e - 127) + 1023)) * 4503599627370496))) (IntKind.u64.wrap (f * 536870912)) = pk S (e + 896) (f * 536870912) := by
  rw [u64_keep (f * 536870912) (by omega) (by omega), i64_keep (e - 127) (by omega) (by omega), i64_keep (e - 127 + 1023) (by omega) (by omega), u64_keep (e - 127 + 1023) (by omega) (by omega), u64_keep ((e - 127 + 1023) * 4503599627370496) (by omega) (by omega),
    show e - 127 + 1023 = e + 896 by omega]
  exact or_pk S (e + 896) (f * 536870912) s0 s1 (by omega) (by omega) (by omega) (by omega)

set_option maxHeartbeats 1000000 in
theorem wid32_top (x S f : Int) (h0 : 0 ≤ x) (h1 : x < 4294967296) (hS : bits .and .u64 (x / 2147483648) 1 = S) (he : bits .and .i64 (x / 8388608) 255 = 255) (hf : bits .and .u64 x 8388607 = f)
    (s0 : 0 ≤ S) (s1 : S ≤ 1) (f0 : 0 ≤ f) (f1 : f < 8388608) (w : World) :
    Calls Try.prog 12 #[.agg #[.int .i64 8, .int .i64 23], .int .u64 x] w fun e w' => e = .returned (.int .u64 (pk S 2047 (f * 536870912))) ∧ Grown w w' := by
  have HH : Hid (bits .or .u64 (bits .or .u64 (S * 9223372036854775808) 9218868437227405312) (f * 536870912) = pk S 2047 (f * 536870912)) := top_eq32 S f s0 s1 f0 f1
  go_enter Try.func12, Try.ntmps12
  go_wp2
  go_quiet (fail)
  go_wp2
  go_ret
  exact ⟨ret_int HH.out, grown_drewN ((Grown.refl _).alloc _ _)⟩

set_option maxHeartbeats 1000000 in
theorem wid32_zero (x S : Int) (h0 : 0 ≤ x) (h1 : x < 4294967296) (hS : bits .and .u64 (x / 2147483648) 1 = S) (he : bits .and .i64 (x / 8388608) 255 = 0) (hf : bits .and .u64 x 8388607 = 0)
    (s0 : 0 ≤ S) (s1 : S ≤ 1) (w : World) :
    Calls Try.prog 12 #[.agg #[.int .i64 8, .int .i64 23], .int .u64 x] w fun e w' => e = .returned (.int .u64 (pk S 0 0)) ∧ Grown w w' := by
  have HH : Hid (S * 9223372036854775808 = pk S 0 0) := by
    show S * 9223372036854775808 = pk S 0 0
    unfold pk; omega
  go_enter Try.func12, Try.ntmps12
  go_wp2
  go_quiet (fail)
  go_wp2
  go_ret
  exact ⟨ret_int HH.out, grown_drewN ((Grown.refl _).alloc _ _)⟩

set_option maxHeartbeats 1000000 in
theorem wid32_norm (x S e f : Int) (h0 : 0 ≤ x) (h1 : x < 4294967296) (hS : bits .and .u64 (x / 2147483648) 1 = S) (he : bits .and .i64 (x / 8388608) 255 = e) (hf : bits .and .u64 x 8388607 = f)
    (s0 : 0 ≤ S) (s1 : S ≤ 1) (e0 : 1 ≤ e) (e1 : e < 255) (f0 : 0 ≤ f) (f1 : f < 8388608) (w : World) :
    Calls Try.prog 12 #[.agg #[.int .i64 8, .int .i64 23], .int .u64 x] w fun e' w' => e' = .returned (.int .u64 (pk S (e + 896) (f * 536870912))) ∧ Grown w w' := by
  have HH : Hid (bits .or .u64 (bits .or .u64 (S * 9223372036854775808) (IntKind.u64.wrap (IntKind.u64.wrap (IntKind.i64.wrap (IntKind.i64.wrap (e - 127) + 1023)) * 4503599627370496))) (IntKind.u64.wrap (f * 536870912)) = pk S (e + 896) (f * 536870912)) := norm_eq32 S e f s0 s1 e0 e1 f0 f1
  go_enter Try.func12, Try.ntmps12
  go_wp2
  go_quiet (fail)
  go_wp2
  go_region_with (go_at_call 15; refine (bias32 _).mono ?_; rintro e w' ⟨rfl, rfl⟩)
  go_simp
  go_wp2
  go_ret
  exact ⟨ret_int HH.out, (grown_drewN ((Grown.refl _).alloc _ _)).alloc _ _⟩

end Go.Proofs.Qxb6603006a
