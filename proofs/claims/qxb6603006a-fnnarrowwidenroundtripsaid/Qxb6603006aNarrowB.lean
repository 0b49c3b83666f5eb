import Derived.Test.Qxb6603006aNarrowA
namespace Go.Proofs.Qxb6603006a
open Go.ChangeShapes Go.WideShapes Go.ChangeAt Go.RowKit
set_option linter.unusedVariables false

set_option maxHeartbeats 2000000 in
set_option maxRecDepth 8000 in
theorem nar32_top (x b S T : Int) (b0 : 0 ≤ b) (b1 : b < 18446744073709551616) (hS : b / 9223372036854775808 = S) (hE : bits .and .i64 (b / 4503599627370496) 2047 = 2047) (hT : bits .and .u64 b 4503599627370495 = T)
    (s0 : 0 ≤ S) (s1 : S ≤ 1) (t0 : 0 ≤ T) (t1 : T < 4503599627370496) (hx : bits .or .u64 (bits .or .u64 (S * 2147483648) 2139095040) (T / 536870912) = x)
    (H : ∀ w : World, Calls Try.prog 12 #[.agg #[.int .i64 8, .int .i64 23], .int .u64 x] w fun e w' => e = .returned (.int .u64 b) ∧ Grown w w') (w : World) :
    Calls Try.prog 14 #[.agg #[.int .i64 8, .int .i64 23], .int .u64 b] w fun e w' => e = .returned (.tuple #[.int .u64 x, .bool true]) ∧ Grown w w' := by
  have HW : Hid (∀ w : World, Calls Try.prog 12 #[.agg #[.int .i64 8, .int .i64 23], .int .u64 x] w fun e w' => e = .returned (.int .u64 b) ∧ Grown w w') := H
  clear H
  go_enter Try.func14, Try.ntmps14
  go_upto_region 5 with fail
  go_cut [10, 11, 12] from 31 to 37 (fun s10 s11 s12 wx => s10 = .int .i64 1024 ∧ s11 = .int .i64 (-126) ∧ s12 = .int .i64 127 ∧ wx = (((w.alloc (.cells #[.int .i64 8, .int .i64 23] 31)).alloc (.cells #[.int .i64 8, .int .i64 23] 31)).alloc (.cells #[.int .i64 8, .int .i64 23] 31)).drew)
  case first =>
    go_region_with (go_at_call 15; refine (bias32 _).mono ?_; rintro e w' ⟨rfl, rfl⟩)
    all_goals (go_wp2_with fail; go_meet; exact ⟨rfl, rfl, rfl, rfl⟩)
  case rest =>
  obtain ⟨rfl, rfl, rfl, rfl⟩ := hcut
  go_wp2
  go_quiet (fail)
  go_wp2_with fail
  refine (HW.out _).mono ?_
  rintro e w' ⟨rfl, hg⟩
  go_wp2
  go_ret2
  exact ⟨rfl, grown_trans (grown_drewN ((((Grown.refl w).alloc _ _).alloc _ _).alloc _ _)) hg⟩

set_option maxHeartbeats 2000000 in
set_option maxRecDepth 8000 in
theorem nar32_zero (x b S : Int) (b0 : 0 ≤ b) (b1 : b < 18446744073709551616) (hS : b / 9223372036854775808 = S) (hE : bits .and .i64 (b / 4503599627370496) 2047 = 0) (hT : bits .and .u64 b 4503599627370495 = 0)
    (s0 : 0 ≤ S) (s1 : S ≤ 1) (hx : S * 2147483648 = x)
    (H : ∀ w : World, Calls Try.prog 12 #[.agg #[.int .i64 8, .int .i64 23], .int .u64 x] w fun e w' => e = .returned (.int .u64 b) ∧ Grown w w') (w : World) :
    Calls Try.prog 14 #[.agg #[.int .i64 8, .int .i64 23], .int .u64 b] w fun e w' => e = .returned (.tuple #[.int .u64 x, .bool true]) ∧ Grown w w' := by
  have HW : Hid (∀ w : World, Calls Try.prog 12 #[.agg #[.int .i64 8, .int .i64 23], .int .u64 x] w fun e w' => e = .returned (.int .u64 b) ∧ Grown w w') := H
  clear H
  go_enter Try.func14, Try.ntmps14
  go_upto_region 5 with fail
  go_cut [10, 11, 12] from 31 to 37 (fun s10 s11 s12 wx => s10 = .int .i64 (-1023) ∧ s11 = .int .i64 (-126) ∧ s12 = .int .i64 127 ∧ wx = (((w.alloc (.cells #[.int .i64 8, .int .i64 23] 31)).alloc (.cells #[.int .i64 8, .int .i64 23] 31)).alloc (.cells #[.int .i64 8, .int .i64 23] 31)).drew)
  case first =>
    go_region_with (go_at_call 15; refine (bias32 _).mono ?_; rintro e w' ⟨rfl, rfl⟩)
    all_goals (go_wp2_with fail; go_meet; exact ⟨rfl, rfl, rfl, rfl⟩)
  case rest =>
  obtain ⟨rfl, rfl, rfl, rfl⟩ := hcut
  go_wp2_with fail
  refine (HW.out _).mono ?_
  rintro e w' ⟨rfl, hg⟩
  go_wp2
  go_ret2
  exact ⟨rfl, grown_trans (((((Grown.refl w).alloc _ _).alloc _ _).alloc _ _).drew) hg⟩

set_option maxHeartbeats 2000000 in
set_option maxRecDepth 8000 in
theorem nar32_norm (x b S E T : Int) (b0 : 0 ≤ b) (b1 : b < 18446744073709551616) (hS : b / 9223372036854775808 = S) (hE : bits .and .i64 (b / 4503599627370496) 2047 = E) (hT : bits .and .u64 b 4503599627370495 = T)
    (s0 : 0 ≤ S) (s1 : S ≤ 1) (e0 : 896 < E) (e1 : E < 1151) (t0 : 0 ≤ T) (t1 : T < 4503599627370496) (hx : bits .or .u64 (bits .or .u64 (S * 2147483648) ((E - 1023 + 127) * 8388608)) (T / 536870912) = x)
    (H : ∀ w : World, Calls Try.prog 12 #[.agg #[.int .i64 8, .int .i64 23], .int .u64 x] w fun e w' => e = .returned (.int .u64 b) ∧ Grown w w') (w : World) :
    Calls Try.prog 14 #[.agg #[.int .i64 8, .int .i64 23], .int .u64 b] w fun e w' => e = .returned (.tuple #[.int .u64 x, .bool true]) ∧ Grown w w' := by
  have HW : Hid (∀ w : World, Calls Try.prog 12 #[.agg #[.int .i64 8, .int .i64 23], .int .u64 x] w fun e w' => e = .returned (.int .u64 b) ∧ Grown w w') := H
  clear H
  go_enter Try.func14, Try.ntmps14
  go_upto_region 5 with fail
  go_cut [10, 11, 12] from 31 to 37 (fun s10 s11 s12 wx => s10 = .int .i64 (E - 1023) ∧ s11 = .int .i64 (-126) ∧ s12 = .int .i64 127 ∧ wx = (((w.alloc (.cells #[.int .i64 8, .int .i64 23] 31)).alloc (.cells #[.int .i64 8, .int .i64 23] 31)).alloc (.cells #[.int .i64 8, .int .i64 23] 31)).drew)
  case first =>
    have hk : IntKind.i64.wrap (E - 1023) = E - 1023 := i64_keep _ (by omega) (by omega)
    have HK : Hid (IntKind.i64.wrap (E - 1023) = E - 1023) := hk
    clear hk
    go_region_with (go_at_call 15; refine (bias32 _).mono ?_; rintro e w' ⟨rfl, rfl⟩)
    all_goals (go_wp2_with fail; go_meet; exact ⟨val_int HK.out, rfl, rfl, rfl⟩)
  case rest =>
  obtain ⟨rfl, rfl, rfl, rfl⟩ := hcut
  have HX : Hid (bits .or .u64 (bits .or .u64 (S * 2147483648) (IntKind.u64.wrap (IntKind.u64.wrap (IntKind.i64.wrap (E - 1023 + 127)) * 8388608))) (T / 536870912) = x) := by
    show bits .or .u64 (bits .or .u64 (S * 2147483648) (IntKind.u64.wrap (IntKind.u64.wrap (IntKind.i64.wrap (E - 1023 + 127)) * 8388608))) (T / 536870912) = x
    rw [i64_keep (E - 1023 + 127) (by omega) (by omega), u64_keep (E - 1023 + 127) (by omega) (by omega), u64_keep ((E - 1023 + 127) * 8388608) (by omega) (by omega)]
    exact hx
  have HW2 : Hid (∀ w : World, Calls Try.prog 12 #[.agg #[.int .i64 8, .int .i64 23], .int .u64 (bits .or .u64 (bits .or .u64 (S * 2147483648) ((E - 1023 + 127) * 8388608)) (T / 536870912))] w fun e w' => e = .returned (.int .u64 b) ∧ Grown w w') := by rw [hx]; exact HW
  clear hx HW
  go_wp2
  go_region_with (go_at_call 15; refine (bias32 _).mono ?_; rintro e w' ⟨rfl, rfl⟩)
  all_goals go_simp
  all_goals go_wp2_with fail
  all_goals (refine (HW2.out _).mono ?_; rintro e w' ⟨rfl, hg⟩)
  all_goals go_wp2
  all_goals go_ret2
  all_goals exact ⟨ret2_int HX.out, grown_trans ((((((Grown.refl w).alloc _ _).alloc _ _).alloc _ _).alloc _ _).drew.drew) hg⟩

set_option maxHeartbeats 2000000 in
set_option maxRecDepth 8000 in
theorem nar32_sub (x b S T : Int) (j : Nat) (b0 : 0 ≤ b) (b1 : b < 18446744073709551616) (hS : b / 9223372036854775808 = S) (hE : bits .and .i64 (b / 4503599627370496) 2047 = 897 - (j : Int)) (hT : bits .and .u64 b 4503599627370495 = T)
    (s0 : 0 ≤ S) (s1 : S ≤ 1) (j0 : 1 ≤ j) (j1 : j ≤ 23) (t0 : 0 ≤ T) (t1 : T < 4503599627370496) (hx : bits .or .u64 (S * 2147483648) (bits .or .u64 4503599627370496 T / 2 ^ (-97 - (-126 - (j : Int))).toNat) = x)
    (H : ∀ w : World, Calls Try.prog 12 #[.agg #[.int .i64 8, .int .i64 23], .int .u64 x] w fun e w' => e = .returned (.int .u64 b) ∧ Grown w w') (w : World) :
    Calls Try.prog 14 #[.agg #[.int .i64 8, .int .i64 23], .int .u64 b] w fun e w' => e = .returned (.tuple #[.int .u64 x, .bool true]) ∧ Grown w w' := by
  have HW : Hid (∀ w : World, Calls Try.prog 12 #[.agg #[.int .i64 8, .int .i64 23], .int .u64 x] w fun e w' => e = .returned (.int .u64 b) ∧ Grown w w') := H
  clear H
  go_enter Try.func14, Try.ntmps14
  go_upto_region 5 with fail
  go_cut [10, 11, 12] from 31 to 37 (fun s10 s11 s12 wx => s10 = .int .i64 (-126 - (j : Int)) ∧ s11 = .int .i64 (-126) ∧ s12 = .int .i64 127 ∧ wx = (((w.alloc (.cells #[.int .i64 8, .int .i64 23] 31)).alloc (.cells #[.int .i64 8, .int .i64 23] 31)).alloc (.cells #[.int .i64 8, .int .i64 23] 31)).drew)
  case first =>
    have hk : IntKind.i64.wrap (897 - (j : Int) - 1023) = -126 - (j : Int) := by rw [i64_keep _ (by omega) (by omega)]; omega
    have HK : Hid (IntKind.i64.wrap (897 - (j : Int) - 1023) = -126 - (j : Int)) := hk
    clear hk
    go_region_with (go_at_call 15; refine (bias32 _).mono ?_; rintro e w' ⟨rfl, rfl⟩)
    all_goals (go_wp2_with fail; go_meet; exact ⟨val_int HK.out, rfl, rfl, rfl⟩)
  case rest =>
  obtain ⟨rfl, rfl, rfl, rfl⟩ := hcut
  go_wp2_with fail
  refine (HW.out _).mono ?_
  rintro e w' ⟨rfl, hg⟩
  go_wp2
  go_ret2
  exact ⟨rfl, grown_trans (((((Grown.refl w).alloc _ _).alloc _ _).alloc _ _).drew) hg⟩

end Go.Proofs.Qxb6603006a
