import Derived.Test.Qxb6002904aRows
import Derived.WalkKit
import Derived.ProofKit
import Derived.Laws.BitsAllLaws
import Derived.Deep.QuietTactic
import Derived.BigQuiet
import Derived.Deep.RegionWith
import Derived.Deep.CutRange
import Derived.Deep.RegionHeld3
import Derived.WalkLawsBesides
namespace Go.Proofs.Qxb6002904a
open Go.ChangeShapes Go.WideShapes Go.ChangeAt Go.RowKit

theorem grown_trans {a b c : World} (h : Grown a b) (k : Grown b c) : Grown a c :=
  ⟨World.keptBut_trans h.1 k.1, fun x => (k.2.1 x).trans (h.2.1 x), Nat.le_trans h.2.2 k.2.2⟩
theorem ret_int {k : IntKind} {a b : Int} (h : a = b) : Ending.returned (.int k a) = .returned (.int k b) := by rw [h]

/-! ### What the Go text computes, on numbers -/
/-- One step of Map: the generic right g, where m holds it, is replaced by v. -/
def st (m g v : Int) : Int := if (bits .and .u32 m g != 0) = true then bits .or .u32 (bits .andNot .u32 m g) v else m
def mapF (rd wr ex al m : Int) : Int := st (st (st (st m 2147483648 rd) 1073741824 wr) 536870912 ex) 268435456 al

theorem st_yes {m g v : Int} (h : (bits .and .u32 m g != 0) = true) : st m g v = bits .or .u32 (bits .andNot .u32 m g) v := if_pos h
theorem st_no {m g v : Int} (h : (bits .and .u32 m g != 0) = false) : st m g v = m := if_neg (by rw [h]; simp)

set_option maxHeartbeats 2000000 in
theorem map_any (rd wr ex al m : Int) (w : World) :
    Calls Try.prog 6 #[.agg #[.int .u32 rd, .int .u32 wr, .int .u32 ex, .int .u32 al], .int .u32 m] w fun e w' =>
      e = .returned (.int .u32 (mapF rd wr ex al m)) ∧ w' = w.alloc (.cells #[.int .u32 rd, .int .u32 wr, .int .u32 ex, .int .u32 al] 25) := by
  go_enter Try.func6, Try.ntmps6
  go_wp2
  all_goals go_ret
  all_goals exact ⟨ret_int (by simp only [mapF, st, ↓reduceIte, Bool.false_eq_true, *]), rfl⟩

/-- What labelAllows leaves a token that does not dominate: r, wv, x: what the three generic rights stand for. -/
def cut (mask bit a v : Int) : Int := if (bits .and .u32 mask bit != 0) = true then bits .andNot .u32 a v else a
def labF (mask r wv x : Int) : Int := cut mask 4 (cut mask 2 (cut mask 1 (bits .or .u32 r x) wv) r) x

end Go.Proofs.Qxb6002904a
