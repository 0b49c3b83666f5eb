import Derived.Test.Qxb6604727aLabel
namespace Go.Proofs.Qxb6604727a
open Go.ChangeShapes Go.WideShapes Go.ChangeAt Go.RowKit

theorem conv1 (x : Int) (w : World) : Sem.run Try.prog (convert 30 9 (.slice (some ⟨w.heap.size, 0, none⟩) 1 1)) (w.alloc (.cells #[.int .u8 x] 5)) = .ok (.string (strOfNums [x])) (w.alloc (.cells #[.int .u8 x] 5)) :=
  run_convert_bytes_arg (P := Try.prog) _ 30 5 Try.underlying30 Try.underlying5 w.heap.size 0 1 1 [x] rfl (fun i hi => by
    match i, hi with
    | 0, _ => simp) 9 Try.underlying9

theorem conv2 (x y : Int) (w : World) : Sem.run Try.prog (convert 30 9 (.slice (some ⟨w.heap.size, 0, none⟩) 2 2)) (w.alloc (.cells #[.int .u8 x, .int .u8 y] 5)) = .ok (.string (strOfNums [x, y])) (w.alloc (.cells #[.int .u8 x, .int .u8 y] 5)) :=
  run_convert_bytes_arg (P := Try.prog) _ 30 5 Try.underlying30 Try.underlying5 w.heap.size 0 2 2 [x, y] rfl (fun i hi => by
    match i, hi with
    | 0, _ => simp
    | 1, _ => simp) 9 Try.underlying9

theorem conv3 (x y z : Int) (w : World) : Sem.run Try.prog (convert 30 9 (.slice (some ⟨w.heap.size, 0, none⟩) 3 3)) (w.alloc (.cells #[.int .u8 x, .int .u8 y, .int .u8 z] 5)) = .ok (.string (strOfNums [x, y, z])) (w.alloc (.cells #[.int .u8 x, .int .u8 y, .int .u8 z] 5)) :=
  run_convert_bytes_arg (P := Try.prog) _ 30 5 Try.underlying30 Try.underlying5 w.heap.size 0 3 3 [x, y, z] rfl (fun i hi => by
    match i, hi with
    | 0, _ => simp
    | 1, _ => simp
    | 2, _ => simp) 9 Try.underlying9

theorem conv4 (x y z u : Int) (w : World) : Sem.run Try.prog (convert 30 9 (.slice (some ⟨w.heap.size, 0, none⟩) 4 4)) (w.alloc (.cells #[.int .u8 x, .int .u8 y, .int .u8 z, .int .u8 u] 5)) = .ok (.string (strOfNums [x, y, z, u])) (w.alloc (.cells #[.int .u8 x, .int .u8 y, .int .u8 z, .int .u8 u] 5)) :=
  run_convert_bytes_arg (P := Try.prog) _ 30 5 Try.underlying30 Try.underlying5 w.heap.size 0 4 4 [x, y, z, u] rfl (fun i hi => by
    match i, hi with
    | 0, _ => simp
    | 1, _ => simp
    | 2, _ => simp
    | 3, _ => simp) 9 Try.underlying9

theorem enc3 (r : Int) (h1 : 2048 ≤ r) (h2 : r < 65536) (h3 : r < 55296 ∨ 57343 < r) (w : World) :
    Calls Try.prog 18 #[.int .i32 r] w fun e w' => e = .returned (.string (strOfNums [bits BinOp.or .i32 224 (r / 4096) % 256, bits BinOp.or .i32 128 (bits BinOp.and .i32 (r / 64) 63) % 256, bits BinOp.or .i32 128 (bits BinOp.and .i32 r 63) % 256])) ∧ Grown w w' := by
  have c3 := conv3
  rcases h3 with h3 | h3
  · go_enter Try.func18, Try.ntmps18
    go_wp2
    go_ret
    exact ⟨rfl, (Grown.refl _).alloc _ _⟩
  · go_enter Try.func18, Try.ntmps18
    go_wp2
    go_ret
    exact ⟨rfl, (Grown.refl _).alloc _ _⟩

theorem enc1 (r : Int) (h1 : 0 ≤ r) (h2 : r < 128) (w : World) :
    Calls Try.prog 18 #[.int .i32 r] w fun e w' => e = .returned (.string (strOfNums [r])) ∧ Grown w w' := by
  have c1 := conv1
  go_enter Try.func18, Try.ntmps18
  go_wp2
  go_ret
  exact ⟨rfl, (Grown.refl _).alloc _ _⟩

theorem enc2 (r : Int) (h1 : 128 ≤ r) (h2 : r < 2048) (w : World) :
    Calls Try.prog 18 #[.int .i32 r] w fun e w' => (∃ x y, e = .returned (.string (strOfNums [x, y]))) ∧ Grown w w' := by
  have c2 := conv2
  go_enter Try.func18, Try.ntmps18
  go_wp2
  go_ret
  exact ⟨⟨_, _, rfl⟩, (Grown.refl _).alloc _ _⟩

theorem enc4 (r : Int) (h1 : 65536 ≤ r) (h2 : r ≤ 1114111) (w : World) :
    Calls Try.prog 18 #[.int .i32 r] w fun e w' => (∃ x y z u, e = .returned (.string (strOfNums [x, y, z, u]))) ∧ Grown w w' := by
  have c4 := conv4
  go_enter Try.func18, Try.ntmps18
  go_wp2
  go_ret
  exact ⟨⟨_, _, _, _, rfl⟩, (Grown.refl _).alloc _ _⟩

theorem encBad (r : Int) (h : r < 0 ∨ 1114111 < r ∨ (55296 ≤ r ∧ r ≤ 57343)) (w : World) :
    Calls Try.prog 18 #[.int .i32 r] w fun e w' => e = .returned (.string (strOfNums [239, 191, 189])) ∧ Grown w w' := by
  have c3 := conv3
  rcases h with h | h | ⟨h, h'⟩
  · go_enter Try.func18, Try.ntmps18
    go_wp2
    go_ret
    exact ⟨rfl, (Grown.refl _).alloc _ _⟩
  · go_enter Try.func18, Try.ntmps18
    go_wp2
    go_ret
    exact ⟨rfl, (Grown.refl _).alloc _ _⟩
  · go_enter Try.func18, Try.ntmps18
    go_wp2
    go_ret
    exact ⟨rfl, (Grown.refl _).alloc _ _⟩

theorem zzFull_dot (w : World) :
    Calls Try.prog 19 #[.int .i32 46] w fun e w' => e = .returned (.bool true) ∧ w' = w := by
  go_enter Try.func19, Try.ntmps19
  go_wp2
  go_ret
  exact ⟨rfl, rfl⟩

theorem zzFull_zh (w : World) :
    Calls Try.prog 19 #[.int .i32 12290] w fun e w' => e = .returned (.bool true) ∧ w' = w := by
  go_enter Try.func19, Try.ntmps19
  go_wp2
  go_ret
  exact ⟨rfl, rfl⟩

theorem zzFull_no (r : Int) (h1 : (r == 46) = false) (h2 : (r == 12290) = false) (w : World) :
    Calls Try.prog 19 #[.int .i32 r] w fun e w' => e = .returned (.bool false) ∧ w' = w := by
  go_enter Try.func19, Try.ntmps19
  go_wp2
  go_ret
  exact ⟨rfl, rfl⟩

end Go.Proofs.Qxb6604727a
