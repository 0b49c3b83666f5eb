import Derived.Test.Qxb6603006aModel
import Derived.Deep.CutRange
namespace Go.Proofs.Qxb6603006a
open Go.ChangeShapes Go.WideShapes Go.ChangeAt Go.RowKit
set_option linter.unusedVariables false

theorem val_int {k : IntKind} {a b : Int} (h : a = b) : Value.int k a = .int k b := by rw [h]

theorem ret2_int {k : IntKind} {a b : Int} {v : Bool} (h : a = b) : Ending.returned (.tuple #[.int k a, .bool v]) = .returned (.tuple #[.int k b, .bool v]) := by rw [h]

set_option maxHeartbeats 2000000 in
set_option maxRecDepth 8000 in
theorem nar16_top (x b S T : Int) (b0 : 0 ≤ b) (b1 : b < 18446744073709551616) (hS : b / 9223372036854775808 = S) (hE : bits .and .i64 (b / 4503599627370496) 2047 = 2047) (hT : bits .and .u64 b 4503599627370495 = T)
    (s0 : 0 ≤ S) (s1 : S ≤ 1) (t0 : 0 ≤ T) (t1 : T < 4503599627370496) (hx : bits .or .u64 (bits .or .u64 (S * 32768) 31744) (T / 4398046511104) = x)
    (H : ∀ w : World, Calls Try.prog 12 #[.agg #[.int .i64 5, .int .i64 10], .int .u64 x] w fun e w' => e = .returned (.int .u64 b) ∧ Grown w w') (w : World) :
    Calls Try.prog 14 #[.agg #[.int .i64 5, .int .i64 10], .int .u64 b] w fun e w' => e = .returned (.tuple #[.int .u64 x, .bool true]) ∧ Grown w w' := by
  have HW : Hid (∀ w : World, Calls Try.prog 12 #[.agg #[.int .i64 5, .int .i64 10], .int .u64 x] w fun e w' => e = .returned (.int .u64 b) ∧ Grown w w') := H
  clear H
  go_enter Try.func14, Try.ntmps14
  go_upto_region 5 with fail
  go_cut [10, 11, 12] from 31 to 37 (fun s10 s11 s12 wx => s10 = .int .i64 1024 ∧ s11 = .int .i64 (-14) ∧ s12 = .int .i64 15 ∧ wx = (((w.alloc (.cells #[.int .i64 5, .int .i64 10] 31)).alloc (.cells #[.int .i64 5, .int .i64 10] 31)).alloc (.cells #[.int .i64 5, .int .i64 10] 31)).drew)
  case first =>
    go_region_with (go_at_call 15; refine (bias16 _).mono ?_; rintro e w' ⟨rfl, rfl⟩)
    all_goals (go_wp2_with fail; go_meet; exact ⟨rfl, rfl, rfl, rfl⟩)
  case rest =>
  obtain ⟨rfl, rfl, rfl, rfl⟩ := hcut
  go_wp2
  go_quiet (fail)
  go_wp2_with fail
  refine (HW.out _).mono ?_
  rintro e w' ⟨rfl, hg⟩
  go_wp2
  go_ret2
  exact ⟨rfl, grown_trans (grown_drewN ((((Grown.refl w).alloc _ _).alloc _ _).alloc _ _)) hg⟩

set_option maxHeartbeats 2000000 in
set_option maxRecDepth 8000 in
theorem nar16_zero (x b S : Int) (b0 : 0 ≤ b) (b1 : b < 18446744073709551616) (hS : b / 9223372036854775808 = S) (hE : bits .and .i64 (b / 4503599627370496) 2047 = 0) (hT : bits .and .u64 b 4503599627370495 = 0)
    (s0 : 0 ≤ S) (s1 : S ≤ 1) (hx : S * 32768 = x)
    (H : ∀ w : World, Calls Try.prog 12 #[.agg #[.int .i64 5, .int .i64 10], .int .u64 x] w fun e w' => e = .returned (.int .u64 b) ∧ Grown w w') (w : World) :
    Calls Try.prog 14 #[.agg #[.int .i64 5, .int .i64 10], .int .u64 b] w fun e w' => e = .returned (.tuple #[.int .u64 x, .bool true]) ∧ Grown w w' := by
  have HW : Hid (∀ w : World, Calls Try.prog 12 #[.agg #[.int .i64 5, .int .i64 10], .int .u64 x] w fun e w' => e = .returned (.int .u64 b) ∧ Grown w w') := H
  clear H
  go_enter Try.func14, Try.ntmps14
  go_upto_region 5 with fail
  go_cut [10, 11, 12] from 31 to 37 (fun s10 s11 s12 wx => s10 = .int .i64 (-1023) ∧ s11 = .int .i64 (-14) ∧ s12 = .int .i64 15 ∧ wx = (((w.alloc (.cells #[.int .i64 5, .int .i64 10] 31)).alloc (.cells #[.int .i64 5, .int .i64 10] 31)).alloc (.cells #[.int .i64 5, .int .i64 10] 31)).drew)
  case first =>
    go_region_with (go_at_call 15; refine (bias16 _).mono ?_; rintro e w' ⟨rfl, rfl⟩)
    all_goals (go_wp2_with fail; go_meet; exact ⟨rfl, rfl, rfl, rfl⟩)
  case rest =>
  obtain ⟨rfl, rfl, rfl, rfl⟩ := hcut
  go_wp2_with fail
  refine (HW.out _).mono ?_
  rintro e w' ⟨rfl, hg⟩
  go_wp2
  go_ret2
  exact ⟨rfl, grown_trans (((((Grown.refl w).alloc _ _).alloc _ _).alloc _ _).drew) hg⟩

set_option maxHeartbeats 2000000 in
set_option maxRecDepth 8000 in
theorem nar16_norm (x b S E T : Int) (b0 : 0 ≤ b) (b1 : b < 18446744073709551616) (hS : b / 9223372036854775808 = S) (hE : bits .and .i64 (b / 4503599627370496) 2047 = E) (hT : bits .and .u64 b 4503599627370495 = T)
    (s0 : 0 ≤ S) (s1 : S ≤ 1) (e0 : 1008 < E) (e1 : E < 1039) (t0 : 0 ≤ T) (t1 : T < 4503599627370496) (hx : bits .or .u64 (bits .or .u64 (S * 32768) ((E - 1023 + 15) * 1024)) (T / 4398046511104) = x)
    (H : ∀ w : World, Calls Try.prog 12 #[.agg #[.int .i64 5, .int .i64 10], .int .u64 x] w fun e w' => e = .returned (.int .u64 b) ∧ Grown w w') (w : World) :
    Calls Try.prog 14 #[.agg #[.int .i64 5, .int .i64 10], .int .u64 b] w fun e w' => e = .returned (.tuple #[.int .u64 x, .bool true]) ∧ Grown w w' := by
  have HW : Hid (∀ w : World, Calls Try.prog 12 #[.agg #[.int .i64 5, .int .i64 10], .int .u64 x] w fun e w' => e = .returned (.int .u64 b) ∧ Grown w w') := H
  clear H
  go_enter Try.func14, Try.ntmps14
  go_upto_region 5 with fail
  go_cut [10, 11, 12] from 31 to 37 (fun s10 s11 s12 wx => s10 = .int .i64 (E - 1023) ∧ s11 = .int .i64 (-14) ∧ s12 = .int .i64 15 ∧ wx = (((w.alloc (.cells #[.int .i64 5, .int .i64 10] 31)).alloc (.cells #[.int .i64 5, .int .i64 10] 31)).alloc (.cells #[.int .i64 5, .int .i64 10] 31)).drew)
  case first =>
    have hk : IntKind.i64.wrap (E - 1023) = E - 1023 := i64_keep _ (by omega) (by omega)
    have HK : Hid (IntKind.i64.wrap (E - 1023) = E - 1023) := hk
    clear hk
    go_region_with (go_at_call 15; refine (bias16 _).mono ?_; rintro e w' ⟨rfl, rfl⟩)
    all_goals (go_wp2_with fail; go_meet; exact ⟨val_int HK.out, rfl, rfl, rfl⟩)
  case rest =>
  obtain ⟨rfl, rfl, rfl, rfl⟩ := hcut
  have HX : Hid (bits .or .u64 (bits .or .u64 (S * 32768) (IntKind.u64.wrap (IntKind.u64.wrap (IntKind.i64.wrap (E - 1023 + 15)) * 1024))) (T / 4398046511104) = x) := by
    show bits .or .u64 (bits .or .u64 (S * 32768) (IntKind.u64.wrap (IntKind.u64.wrap (IntKind.i64.wrap (E - 1023 + 15)) * 1024))) (T / 4398046511104) = x
    rw [i64_keep (E - 1023 + 15) (by omega) (by omega), u64_keep (E - 1023 + 15) (by omega) (by omega), u64_keep ((E - 1023 + 15) * 1024) (by omega) (by omega)]
    exact hx
  have HW2 : Hid (∀ w : World, Calls Try.prog 12 #[.agg #[.int .i64 5, .int .i64 10], .int .u64 (bits .or .u64 (bits .or .u64 (S * 32768) ((E - 1023 + 15) * 1024)) (T / 4398046511104))] w fun e w' => e = .returned (.int .u64 b) ∧ Grown w w') := by rw [hx]; exact HW
  clear hx HW
  go_wp2
  go_region_with (go_at_call 15; refine (bias16 _).mono ?_; rintro e w' ⟨rfl, rfl⟩)
  all_goals go_simp
  all_goals go_wp2_with fail
  all_goals (refine (HW2.out _).mono ?_; rintro e w' ⟨rfl, hg⟩)
  all_goals go_wp2
  all_goals go_ret2
  all_goals exact ⟨ret2_int HX.out, grown_trans ((((((Grown.refl w).alloc _ _).alloc _ _).alloc _ _).alloc _ _).drew.drew) hg⟩

set_option maxHeartbeats 2000000 in
set_option maxRecDepth 8000 in
theorem nar16_sub (x b S T : Int) (j : Nat) (b0 : 0 ≤ b) (b1 : b < 18446744073709551616) (hS : b / 9223372036854775808 = S) (hE : bits .and .i64 (b / 4503599627370496) 2047 = 1009 - (j : Int)) (hT : bits .and .u64 b 4503599627370495 = T)
    (s0 : 0 ≤ S) (s1 : S ≤ 1) (j0 : 1 ≤ j) (j1 : j ≤ 10) (t0 : 0 ≤ T) (t1 : T < 4503599627370496) (hx : bits .or .u64 (S * 32768) (bits .or .u64 4503599627370496 T / 2 ^ (28 - (-14 - (j : Int))).toNat) = x)
    (H : ∀ w : World, Calls Try.prog 12 #[.agg #[.int .i64 5, .int .i64 10], .int .u64 x] w fun e w' => e = .returned (.int .u64 b) ∧ Grown w w') (w : World) :
    Calls Try.prog 14 #[.agg #[.int .i64 5, .int .i64 10], .int .u64 b] w fun e w' => e = .returned (.tuple #[.int .u64 x, .bool true]) ∧ Grown w w' := by
  have HW : Hid (∀ w : World, Calls Try.prog 12 #[.agg #[.int .i64 5, .int .i64 10], .int .u64 x] w fun e w' => e = .returned (.int .u64 b) ∧ Grown w w') := H
  clear H
  go_enter Try.func14, Try.ntmps14
  go_upto_region 5 with fail
  go_cut [10, 11, 12] from 31 to 37 (fun s10 s11 s12 wx => s10 = .int .i64 (-14 - (j : Int)) ∧ s11 = .int .i64 (-14) ∧ s12 = .int .i64 15 ∧ wx = (((w.alloc (.cells #[.int .i64 5, .int .i64 10] 31)).alloc (.cells #[.int .i64 5, .int .i64 10] 31)).alloc (.cells #[.int .i64 5, .int .i64 10] 31)).drew)
  case first =>
    have hk : IntKind.i64.wrap (1009 - (j : Int) - 1023) = -14 - (j : Int) := by rw [i64_keep _ (by omega) (by omega)]; omega
    have HK : Hid (IntKind.i64.wrap (1009 - (j : Int) - 1023) = -14 - (j : Int)) := hk
    clear hk
    go_region_with (go_at_call 15; refine (bias16 _).mono ?_; rintro e w' ⟨rfl, rfl⟩)
    all_goals (go_wp2_with fail; go_meet; exact ⟨val_int HK.out, rfl, rfl, rfl⟩)
  case rest =>
  obtain ⟨rfl, rfl, rfl, rfl⟩ := hcut
  go_wp2_with fail
  refine (HW.out _).mono ?_
  rintro e w' ⟨rfl, hg⟩
  go_wp2
  go_ret2
  exact ⟨rfl, grown_trans (((((Grown.refl w).alloc _ _).alloc _ _).alloc _ _).drew) hg⟩

end Go.Proofs.Qxb6603006a
