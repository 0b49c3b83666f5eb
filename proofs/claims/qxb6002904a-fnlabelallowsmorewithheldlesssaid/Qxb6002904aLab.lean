import Derived.Test.Qxb6002904aMap
namespace Go.Proofs.Qxb6002904a
open Go.ChangeShapes Go.WideShapes Go.ChangeAt Go.RowKit

set_option maxHeartbeats 2000000 in
set_option maxRecDepth 8000 in
theorem lab_dom (mask rd wr ex al : Int) (w : World) :
    Calls Try.prog 13 #[.int .u32 mask, .bool true, .agg #[.int .u32 rd, .int .u32 wr, .int .u32 ex, .int .u32 al]] w fun e w' =>
      e = .returned (.int .u32 (bits .or .u32 (bits .or .u32 (mapF rd wr ex al 2147483648) (mapF rd wr ex al 1073741824)) (mapF rd wr ex al 536870912))) ∧ Grown w w' := by
  go_enter Try.func13, Try.ntmps13
  go_upto_region 1 with fail
  go_cut [7, 8, 9] from 11 to 16 (fun s7 s8 s9 wx => s7 = .int .u32 (mapF rd wr ex al 2147483648) ∧ s8 = .int .u32 (mapF rd wr ex al 1073741824) ∧ s9 = .int .u32 (mapF rd wr ex al 536870912) ∧ Hid (Grown w wx))
  case first =>
    go_region_held3 (fun wx => wx.cell? ⟨w.heap.size, 0, none⟩ = some (.int .u32 rd) ∧ wx.cell? ⟨w.heap.size, 1, none⟩ = some (.int .u32 wr) ∧ wx.cell? ⟨w.heap.size, 2, none⟩ = some (.int .u32 ex) ∧ wx.cell? ⟨w.heap.size, 3, none⟩ = some (.int .u32 al)) (go_keep) ((go_at_call 6; refine (map_any _ _ _ _ _ _).mono ?_; rintro e w' ⟨rfl, rfl⟩))
    all_goals (go_wp2_with fail; go_meet; exact ⟨rfl, rfl, rfl, ((((Grown.refl w).alloc _ _).alloc _ _).alloc _ _).alloc _ _⟩)
  case rest =>
  obtain ⟨rfl, rfl, rfl, hg⟩ := hcut
  go_wp2
  go_ret
  exact ⟨rfl, hg.out⟩

set_option maxHeartbeats 2000000 in
set_option maxRecDepth 8000 in
theorem lab_not (mask rd wr ex al : Int) (w : World) :
    Calls Try.prog 13 #[.int .u32 mask, .bool false, .agg #[.int .u32 rd, .int .u32 wr, .int .u32 ex, .int .u32 al]] w fun e w' =>
      e = .returned (.int .u32 (labF mask (mapF rd wr ex al 2147483648) (mapF rd wr ex al 1073741824) (mapF rd wr ex al 536870912))) ∧ Grown w w' := by
  go_enter Try.func13, Try.ntmps13
  go_upto_region 1 with fail
  go_cut [7, 8, 9] from 11 to 16 (fun s7 s8 s9 wx => s7 = .int .u32 (mapF rd wr ex al 2147483648) ∧ s8 = .int .u32 (mapF rd wr ex al 1073741824) ∧ s9 = .int .u32 (mapF rd wr ex al 536870912) ∧ Hid (Grown w wx))
  case first =>
    go_region_held3 (fun wx => wx.cell? ⟨w.heap.size, 0, none⟩ = some (.int .u32 rd) ∧ wx.cell? ⟨w.heap.size, 1, none⟩ = some (.int .u32 wr) ∧ wx.cell? ⟨w.heap.size, 2, none⟩ = some (.int .u32 ex) ∧ wx.cell? ⟨w.heap.size, 3, none⟩ = some (.int .u32 al)) (go_keep) ((go_at_call 6; refine (map_any _ _ _ _ _ _).mono ?_; rintro e w' ⟨rfl, rfl⟩))
    all_goals (go_wp2_with fail; go_meet; exact ⟨rfl, rfl, rfl, ((((Grown.refl w).alloc _ _).alloc _ _).alloc _ _).alloc _ _⟩)
  case rest =>
  obtain ⟨rfl, rfl, rfl, hg⟩ := hcut
  go_wp2
  all_goals go_ret
  all_goals exact ⟨ret_int (by simp only [labF, cut, ↓reduceIte, Bool.false_eq_true, *]), hg.out⟩

theorem zzLab_dom (mask rd wr ex al : Int) (w : World) :
    Calls Try.prog 7 #[.int .u32 mask, .bool true, .int .u32 rd, .int .u32 wr, .int .u32 ex, .int .u32 al] w fun e w' =>
      e = .returned (.int .u32 (bits .or .u32 (bits .or .u32 (mapF rd wr ex al 2147483648) (mapF rd wr ex al 1073741824)) (mapF rd wr ex al 536870912))) ∧ Grown w w' := by
  go_enter Try.func7, Try.ntmps7
  go_wp2_with fail
  refine (lab_dom _ _ _ _ _ _).mono ?_
  rintro e w' ⟨rfl, hg⟩
  go_wp2
  go_ret
  exact ⟨rfl, hg⟩

theorem zzLab_not (mask rd wr ex al : Int) (w : World) :
    Calls Try.prog 7 #[.int .u32 mask, .bool false, .int .u32 rd, .int .u32 wr, .int .u32 ex, .int .u32 al] w fun e w' =>
      e = .returned (.int .u32 (labF mask (mapF rd wr ex al 2147483648) (mapF rd wr ex al 1073741824) (mapF rd wr ex al 536870912))) ∧ Grown w w' := by
  go_enter Try.func7, Try.ntmps7
  go_wp2_with fail
  refine (lab_not _ _ _ _ _ _).mono ?_
  rintro e w' ⟨rfl, hg⟩
  go_wp2
  go_ret
  exact ⟨rfl, hg⟩

/-- zzMappingOf: the mapping of the four numbers. -/
theorem mapping_any (rd wr ex al : Int) (w : World) :
    Calls Try.prog 5 #[.int .u32 rd, .int .u32 wr, .int .u32 ex, .int .u32 al] w fun e w' =>
      e = .returned (.agg #[.int .u32 rd, .int .u32 wr, .int .u32 ex, .int .u32 al]) ∧ w' = w.alloc (.cells #[.int .u32 rd, .int .u32 wr, .int .u32 ex, .int .u32 al] 25) := by
  go_enter Try.func5, Try.ntmps5
  go_wp2
  exact bodyPost_ret (v := .agg #[.int .u32 rd, .int .u32 wr, .int .u32 ex, .int .u32 al]) (by simp [results, Try.results5, go_sem]) rfl ⟨rfl, rfl⟩

end Go.Proofs.Qxb6002904a
