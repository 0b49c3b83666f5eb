import Derived.Test.Qxb6604727aRows
import Derived.WalkKit
import Derived.ProofKit
import Derived.OpenShut
import Derived.ShutString
import Derived.Test.Qxb6604727aRepeat
namespace Go.Proofs.Qxb6604727a.fnListPlaceExact
open Go.ChangeShapes Go.WideShapes Go.ChangeAt Go.RowKit
open Go.ChangeMaps (open_string shut_string)
set_option linter.unusedVariables false      -- a walk need not use every 'w<i>' (that an integer argument fits its kind)

theorem own : ownKnob Try.prog.godebug = none := by kernel_rfl

/-! ### STEP 1: THE WALK: the Go text returns true. 'Grown w w'': the world has at most new blocks (Derived/RowKit3.lean). Part the cases AHEAD of 'go_enter' where a test parts the walk; take each callee by a contract of your own. -/
theorem walk (a0 : ByteArray) (w0 : a0.size ≤ maxLen) (w : World) :
    Calls Try.prog 3 #[.string a0] w fun e w' => e = .returned (.bool true) ∧ Grown w w' := by
  clear w0
  by_cases hbig : 1048576 < a0.size
  · go_enter Try.func3, Try.ntmps3
    go_wp2_with fail
    refine (bytes8_no a0 hbig _).mono ?_
    rintro e w1 ⟨rfl, rfl⟩
    go_wp2
    go_ret
    exact ⟨rfl, Grown.refl _⟩
  by_cases hmid : 65536 < a0.size
  · go_enter Try.func3, Try.ntmps3
    go_wp2_with fail
    refine (bytes8_ok a0 (by omega) _).mono ?_
    rintro e w1 ⟨rfl, rfl⟩
    go_wp2
    go_ret
    exact ⟨rfl, Grown.refl _⟩
  by_cases hz : a0.size = 0
  · have hz' : ((a0.size : Int) == 0) = true := by simp [hz]
    have hz2 : ¬ (65536 : Int) < (a0.size : Int) := by omega
    clear hz
    go_enter Try.func3, Try.ntmps3
    go_wp2_with fail
    refine (bytes8_ok a0 (by omega) _).mono ?_
    rintro e w1 ⟨rfl, rfl⟩
    go_wp2
    go_ret
    exact ⟨rfl, Grown.refl _⟩
  have h0 : 0 < a0.size := by omega
  rcases first_diff a0 h0 with hall | ⟨m, hm, hall, hne⟩
  · have RY : Hid (∀ w : World, Calls Try.prog 9 #[.string a0] w fun e w' => e = .returned (.bool true) ∧ Grown w w') := repeated_yes a0 h0 (by omega) hall
    by_cases hc : 97 ≤ a0[0].toNat ∧ a0[0].toNat ≤ 122
    · obtain ⟨hc1, hc2⟩ := hc
      have LY : Hid (∀ w : World, Calls Try.prog 10 #[.string a0] w fun e w' => e = .returned (.bool true) ∧ w' = w) := lower_yes a0 (by omega) (fun k h => by rw [hall k h]; exact ⟨hc1, hc2⟩)
      obtain ⟨z, hz0, hz1, hz2, hz3⟩ : ∃ z : Int, z = 26 * ((a0.size : Int) - 1) + ((a0[0].toNat : Int) - 97) ∧ 26 * ((a0.size : Int) - 1) + ((a0[0].toNat : Int) - 97) % 256 = z ∧ 0 ≤ z ∧ z < 26 * (a0.size : Int) := ⟨_, rfl, by omega, by omega, by omega⟩
      have LP0 := zzListPlace_same a0 h0 (by omega) hall
      rw [hz1] at LP0
      have LP : Hid (∀ w : World, Calls Try.prog 11 #[.string a0] w fun e w' => e = .returned (.int .i64 z) ∧ Grown w w') := LP0
      have LB : Hid (∀ w : World, Calls Try.prog 12 #[.int .i64 z] w fun e w' => e = .returned (.string a0) ∧ Grown w w') := label_back a0 z h0 (by omega) hall hc1 hc2 hz0
      clear LP0 hz0 hz1 hall hz
      go_enter Try.func3, Try.ntmps3
      go_wp2_with fail
      refine (bytes8_ok a0 (by omega) _).mono ?_
      rintro e w1 ⟨rfl, rfl⟩
      go_wp2_with fail
      refine (RY.out _).mono ?_
      rintro e w2 ⟨rfl, g2⟩
      go_wp2_with fail
      refine (LY.out _).mono ?_
      rintro e w3 ⟨rfl, rfl⟩
      go_wp2_with fail
      refine (LP.out _).mono ?_
      rintro e w4 ⟨rfl, g4⟩
      have G4 := grown_trans g2 g4
      clear g2 g4
      go_wp2_with fail
      refine (RY.out _).mono ?_
      rintro e w5 ⟨rfl, g5⟩
      have G5 := grown_trans G4 g5
      clear G4 g5
      go_wp2_with fail
      refine (LB.out _).mono ?_
      rintro e w6 ⟨rfl, g6⟩
      have G6 := grown_trans G5 g6
      clear G5 g6
      go_wp2
      go_ret
      exact ⟨rfl, G6⟩
    · clear hall hz
      go_enter Try.func3, Try.ntmps3
      go_wp2_with fail
      refine (bytes8_ok a0 (by omega) _).mono ?_
      rintro e w1 ⟨rfl, rfl⟩
      go_wp2_with fail
      refine (RY.out _).mono ?_
      rintro e w2 ⟨rfl, g2⟩
      go_wp2_with fail
      refine (lower_no a0 h0 (by omega) _).mono ?_
      rintro e w3 ⟨rfl, rfl⟩
      go_wp2
      go_ret
      exact ⟨rfl, g2⟩
  · have RN : Hid (∀ w : World, Calls Try.prog 9 #[.string a0] w fun e w' => e = .returned (.bool false) ∧ Grown w w') := repeated_no a0 m hm (by omega) hall hne
    have LP : Hid (∀ w : World, Calls Try.prog 11 #[.string a0] w fun e w' => e = .returned (.int .i64 (-1)) ∧ Grown w w') := zzListPlace_diff a0 m hm (by omega) hall hne
    clear hall hne hz
    go_enter Try.func3, Try.ntmps3
    go_wp2_with fail
    refine (bytes8_ok a0 (by omega) _).mono ?_
    rintro e w1 ⟨rfl, rfl⟩
    go_wp2_with fail
    refine (RN.out _).mono ?_
    rintro e w2 ⟨rfl, g2⟩
    go_wp2_with fail
    refine (LP.out _).mono ?_
    rintro e w4 ⟨rfl, g4⟩
    have G4 := grown_trans g2 g4
    clear g2 g4
    go_wp2_with fail
    refine (RN.out _).mono ?_
    rintro e w5 ⟨rfl, g5⟩
    have G5 := grown_trans G4 g5
    clear G4 g5
    go_wp2
    go_ret
    exact ⟨rfl, G5⟩

/-! ### THE ROW's STEP: WRITTEN OUT: LEAVE IT -/
set_option maxRecDepth 100000 in
theorem lifted (os : Os) (started : os.Started) (H : Type) (enc : TypeId × Value → H) :
    ReturnsInHanded {} Try.checked os 3 .any (Rows.fnListPlaceExactSpec.pre6 enc Try.prog Try.f3 Rows.fnListPlaceExactRow.domain false) (Rows.fnListPlaceExactSpec.post enc Try.prog Try.f3 false true false false) := by
  refine returnsInHanded_of_change (C := Try.checked) own started (by kernel_rfl) Try.func3
    (ChangeSpec.witness6 (enc := enc) (C := Try.checked) false ⟨#[], #[.string ByteArray.empty], []⟩ 8 (by kernel_rfl) (by kernel_rfl) (by kernel_rfl) (by kernel_rfl)) ?_
  intro W base args ds gs before hval0 hW hcnd _
  have hval : ∀ (j : Nat) t v, Try.f3.params[j]? = some t → args[j]? = some v → Value.okWide Try.prog W .any base t v := hval0
  have hW' := hW
  obtain ⟨p, q, hA0, hV, rfl, hfz, hnd⟩ := hW
  have hA : DataW.TrodAll enc Try.prog W 0 (fun _ => true) true Try.f3.params.toList args.toList ds p := hA0
  rw [Try.params3] at hA hval
  obtain ⟨v0, vs0, d0, ds0, p0, q0, hargs, rfl, rfl, h0, r0⟩ := trodAll_cons hA
  obtain ⟨rfl, rfl, rfl⟩ := trodAll_nil r0
  obtain rfl : args = #[v0] := by cases args; simp_all
  obtain ⟨rfl, rfl⟩ := trodVars_none hV
  obtain ⟨a0, rfl, rfl, rfl, w0⟩ := open_string Try.underlying9 (hval 0 9 v0 rfl rfl) h0
  clear hA0 hval0
  simp only [List.append_nil] at hW'
  refine (walk a0 w0 W).mono fun e W' ⟨he, hg⟩ => ?_
  subst he
  exact ⟨_, rfl, post_of_same (pa := []) (pv := []) hW' (fun _ _ _ => (trodAll_cons_mk (shut_bool Try.underlying4 _) trodAll_mk0)) (fun sp _ => (trodAll_cons_mk (shut_string Try.underlying9 w0) trodAll_mk0)) (fun _ _ => rfl) rfl
    (hg.frame _) hg.2.1 (ok_one (by kernel_rfl) rfl (okWide_bool_mk Try.underlying4 _))⟩

theorem over : Rows.fnListPlaceExactRow.holds Try.pinned (OpenSpec.ofChange Rows.fnListPlaceExactSpec) :=
  OpenClaim.holds_of_wide 3 Try.f3 rfl rfl rfl rfl rfl rfl rfl ⟨rfl, rfl, rfl, rfl, rfl⟩ rfl rfl rfl rfl rfl (by kernel_rfl) Try.func3 (by kernel_rfl)
    (of_decide_eq_true (by kernel_rfl)) (by unfold Func.isWrapper; first | (rw [if_pos (by decide +kernel)]; kernel_rfl) | (rw [if_neg (by decide +kernel)]; exact ⟨rfl, rfl⟩))
    (fun os started H enc _ => lifted os started H enc)

/-- ████ THE STATEMENT ████ -/
theorem proved : Rows.FnListPlaceExactSaid :=
  over
#print axioms proved
end Go.Proofs.Qxb6604727a.fnListPlaceExact
