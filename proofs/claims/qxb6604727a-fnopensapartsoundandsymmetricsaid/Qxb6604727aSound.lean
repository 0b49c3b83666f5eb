import Derived.Test.Qxb6604727aApart
namespace Go.Proofs.Qxb6604727a
open Go.ChangeShapes Go.WideShapes Go.ChangeAt Go.RowKit

/-- Is the byte a letter? -/
def letB (c : Int) : Bool := decide ((97 ≤ c ∧ c ≤ 122) ∨ (65 ≤ c ∧ c ≤ 90))

theorem let_any (c : Int) (w : World) :
    Calls Try.prog 17 #[.int .u8 c] w fun e w' => e = .returned (.bool (letB c)) ∧ w' = w := by
  by_cases h1 : 97 ≤ c
  · by_cases h2 : c ≤ 122
    · have hl : letB c = true := decide_eq_true (by omega)
      rw [hl]
      clear hl
      go_enter Try.func17, Try.ntmps17
      go_wp2
      go_ret
      exact ⟨rfl, rfl⟩
    · have h5 : decide (c ≤ 90) = false := decide_eq_false (by omega)
      have hl : letB c = false := decide_eq_false (by omega)
      rw [hl]
      clear hl
      go_enter Try.func17, Try.ntmps17
      go_wp2
      go_ret
      exact ⟨rfl, rfl⟩
  · by_cases h3 : 65 ≤ c
    · by_cases h4 : c ≤ 90
      · have hl : letB c = true := decide_eq_true (by omega)
        rw [hl]
        clear hl
        go_enter Try.func17, Try.ntmps17
        go_wp2
        go_ret
        exact ⟨rfl, rfl⟩
      · have hl : letB c = false := decide_eq_false (by omega)
        rw [hl]
        clear hl
        go_enter Try.func17, Try.ntmps17
        go_wp2
        go_ret
        exact ⟨rfl, rfl⟩
    · have hl : letB c = false := decide_eq_false (by omega)
      rw [hl]
      clear hl
      go_enter Try.func17, Try.ntmps17
      go_wp2
      go_ret
      exact ⟨rfl, rfl⟩

/-- A byte that is no letter matches no other, whatever the case. -/
theorem match_noletter (a b : Int) (hab : (a == b) = false) (hl : letB a = false) : matchB a b true = false := by
  have h1 : a ≠ b := by simpa using hab
  have h2 := of_decide_eq_false hl
  unfold matchB upC
  simp only [hab, Bool.false_or, Bool.true_and, beq_eq_false_iff_ne, ne_eq]
  repeat split
  all_goals omega

end Go.Proofs.Qxb6604727a
