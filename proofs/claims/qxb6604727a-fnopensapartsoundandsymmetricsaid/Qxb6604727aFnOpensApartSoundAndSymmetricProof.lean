import Derived.Test.Qxb6604727aRows
import Derived.WalkKit
import Derived.ProofKit
import Derived.OpenShut
import Derived.ShutString
import Derived.Test.Qxb6604727aSound
namespace Go.Proofs.Qxb6604727a.fnOpensApartSoundAndSymmetric
open Go.ChangeShapes Go.WideShapes Go.ChangeAt Go.RowKit
open Go.ChangeMaps (open_string shut_string)
set_option linter.unusedVariables false      -- a walk need not use every 'w<i>' (that an integer argument fits its kind)

theorem own : ownKnob Try.prog.godebug = none := by kernel_rfl

/-! ### STEP 1: THE WALK: the Go text returns true. 'Grown w w'': the world has at most new blocks (Derived/RowKit3.lean). Part the cases AHEAD of 'go_enter' where a test parts the walk; take each callee by a contract of your own. -/
set_option maxRecDepth 8000 in
set_option maxHeartbeats 4000000 in
theorem walk (a0 : ByteArray) (a1 : ByteArray) (a2 : Bool) (w0 : a0.size ≤ maxLen) (w1 : a1.size ≤ maxLen) (w : World) :
    Calls Try.prog 6 #[.string a0, .string a1, .bool a2] w fun e w' => e = .returned (.bool true) ∧ Grown w w' := by
  have w0' : a0.size ≤ 9223372036854775807 := w0
  have w1' : a1.size ≤ 9223372036854775807 := w1
  clear w0 w1
  by_cases hbig : 1048576 < a0.size + a1.size
  · go_enter Try.func6, Try.ntmps6
    go_wp2_with fail
    refine (bytes16_no a0 a1 a2 w0' w1' hbig _).mono ?_
    rintro e w1 ⟨rfl, rfl⟩
    go_wp2
    go_ret
    exact ⟨rfl, Grown.refl _⟩
  by_cases hl0 : 65536 < a0.size
  · go_enter Try.func6, Try.ntmps6
    go_wp2_with fail
    refine (bytes16_ok a0 a1 a2 (by omega) _).mono ?_
    rintro e w1 ⟨rfl, rfl⟩
    go_wp2
    go_ret
    exact ⟨rfl, Grown.refl _⟩
  by_cases hl1 : 65536 < a1.size
  · go_enter Try.func6, Try.ntmps6
    go_wp2_with fail
    refine (bytes16_ok a0 a1 a2 (by omega) _).mono ?_
    rintro e w1 ⟨rfl, rfl⟩
    go_wp2
    go_ret
    exact ⟨rfl, Grown.refl _⟩
  by_cases hz0 : a0.size = 0
  · have hd : decide (0 < a0.size) = false := decide_eq_false (by omega)
    have O1 : Hid (∀ w : World, Calls Try.prog 14 #[.string a0, .string a1, .bool a2] w fun e w' => e = .returned (.bool false) ∧ Grown w w') := oa14_of a0 a1 a2 false (oa21_empty a0 a1 a2 (.inl hz0))
    have O2 : Hid (∀ w : World, Calls Try.prog 14 #[.string a1, .string a0, .bool a2] w fun e w' => e = .returned (.bool false) ∧ Grown w w') := oa14_of a1 a0 a2 false (oa21_empty a1 a0 a2 (.inr hz0))
    have O3 : Hid (∀ w : World, Calls Try.prog 14 #[.string a0, .string a1, .bool false] w fun e w' => e = .returned (.bool false) ∧ Grown w w') := oa14_of a0 a1 false false (oa21_empty a0 a1 false (.inl hz0))
    have O4 : Hid (∀ w : World, Calls Try.prog 14 #[.string a0, .string a1, .bool true] w fun e w' => e = .returned (.bool false) ∧ Grown w w') := oa14_of a0 a1 true false (oa21_empty a0 a1 true (.inl hz0))
    have hz0' : a0.size ≤ 0 := by omega
    clear hz0
    go_enter Try.func6, Try.ntmps6
    go_wp2_with fail
    refine (bytes16_ok a0 a1 a2 (by omega) _).mono ?_
    rintro e w1 ⟨rfl, rfl⟩
    go_wp2_with fail
    refine (O1.out _).mono ?_
    rintro e u1 ⟨rfl, g1⟩
    have G1 := g1
    clear g1
    go_wp2_with fail
    refine (O2.out _).mono ?_
    rintro e u2 ⟨rfl, g2⟩
    have G2 := grown_trans G1 g2
    clear G1 g2
    go_wp2_with fail
    refine (O3.out _).mono ?_
    rintro e u3 ⟨rfl, g3⟩
    have G3 := grown_trans G2 g3
    clear G2 g3
    go_wp2_with fail
    refine (O4.out _).mono ?_
    rintro e u4 ⟨rfl, g4⟩
    have G4 := grown_trans G3 g4
    clear G3 g4
    go_wp2_with fail
    go_quiet (fail)
    go_wp2
    go_ret
    exact ⟨rfl, G4⟩
  have h0 : 0 < a0.size := by omega
  by_cases hz1 : a1.size = 0
  · have hd : decide (0 < a1.size) = false := decide_eq_false (by omega)
    have O1 : Hid (∀ w : World, Calls Try.prog 14 #[.string a0, .string a1, .bool a2] w fun e w' => e = .returned (.bool false) ∧ Grown w w') := oa14_of a0 a1 a2 false (oa21_empty a0 a1 a2 (.inr hz1))
    have O2 : Hid (∀ w : World, Calls Try.prog 14 #[.string a1, .string a0, .bool a2] w fun e w' => e = .returned (.bool false) ∧ Grown w w') := oa14_of a1 a0 a2 false (oa21_empty a1 a0 a2 (.inl hz1))
    have O3 : Hid (∀ w : World, Calls Try.prog 14 #[.string a0, .string a1, .bool false] w fun e w' => e = .returned (.bool false) ∧ Grown w w') := oa14_of a0 a1 false false (oa21_empty a0 a1 false (.inr hz1))
    have O4 : Hid (∀ w : World, Calls Try.prog 14 #[.string a0, .string a1, .bool true] w fun e w' => e = .returned (.bool false) ∧ Grown w w') := oa14_of a0 a1 true false (oa21_empty a0 a1 true (.inr hz1))
    have hz1' : a1.size ≤ 0 := by omega
    clear hz0 hz1
    go_enter Try.func6, Try.ntmps6
    go_wp2_with fail
    refine (bytes16_ok a0 a1 a2 (by omega) _).mono ?_
    rintro e w1 ⟨rfl, rfl⟩
    go_wp2_with fail
    refine (O1.out _).mono ?_
    rintro e u1 ⟨rfl, g1⟩
    have G1 := g1
    clear g1
    go_wp2_with fail
    refine (O2.out _).mono ?_
    rintro e u2 ⟨rfl, g2⟩
    have G2 := grown_trans G1 g2
    clear G1 g2
    go_wp2_with fail
    refine (O3.out _).mono ?_
    rintro e u3 ⟨rfl, g3⟩
    have G3 := grown_trans G2 g3
    clear G2 g3
    go_wp2_with fail
    refine (O4.out _).mono ?_
    rintro e u4 ⟨rfl, g4⟩
    have G4 := grown_trans G3 g4
    clear G3 g4
    go_wp2_with fail
    go_quiet (fail)
    go_wp2
    go_ret
    exact ⟨rfl, G4⟩
  have h1 : 0 < a1.size := by omega
  clear hz0 hz1
  by_cases hh0 : (128 : Int) ≤ (a0[0].toNat : Int)
  · have hd : decide ((a0[0].toNat : Int) < 128) = false := decide_eq_false (by omega)
    have O1 : Hid (∀ w : World, Calls Try.prog 14 #[.string a0, .string a1, .bool a2] w fun e w' => e = .returned (.bool false) ∧ Grown w w') := oa14_of a0 a1 a2 false (oa21_high a0 a1 a2 h0 h1 (.inl hh0))
    have O2 : Hid (∀ w : World, Calls Try.prog 14 #[.string a1, .string a0, .bool a2] w fun e w' => e = .returned (.bool false) ∧ Grown w w') := oa14_of a1 a0 a2 false (oa21_high a1 a0 a2 h1 h0 (.inr hh0))
    have O3 : Hid (∀ w : World, Calls Try.prog 14 #[.string a0, .string a1, .bool false] w fun e w' => e = .returned (.bool false) ∧ Grown w w') := oa14_of a0 a1 false false (oa21_high a0 a1 false h0 h1 (.inl hh0))
    have O4 : Hid (∀ w : World, Calls Try.prog 14 #[.string a0, .string a1, .bool true] w fun e w' => e = .returned (.bool false) ∧ Grown w w') := oa14_of a0 a1 true false (oa21_high a0 a1 true h0 h1 (.inl hh0))
    go_enter Try.func6, Try.ntmps6
    go_wp2_with fail
    refine (bytes16_ok a0 a1 a2 (by omega) _).mono ?_
    rintro e w1 ⟨rfl, rfl⟩
    go_wp2_with fail
    refine (O1.out _).mono ?_
    rintro e u1 ⟨rfl, g1⟩
    have G1 := g1
    clear g1
    go_wp2_with fail
    refine (O2.out _).mono ?_
    rintro e u2 ⟨rfl, g2⟩
    have G2 := grown_trans G1 g2
    clear G1 g2
    go_wp2_with fail
    refine (O3.out _).mono ?_
    rintro e u3 ⟨rfl, g3⟩
    have G3 := grown_trans G2 g3
    clear G2 g3
    go_wp2_with fail
    refine (O4.out _).mono ?_
    rintro e u4 ⟨rfl, g4⟩
    have G4 := grown_trans G3 g4
    clear G3 g4
    go_wp2_with fail
    go_quiet (fail)
    go_wp2
    go_ret
    exact ⟨rfl, G4⟩
  have hh0' : (a0[0].toNat : Int) < 128 := by omega
  by_cases hh1 : (128 : Int) ≤ (a1[0].toNat : Int)
  · have hd : decide ((a1[0].toNat : Int) < 128) = false := decide_eq_false (by omega)
    have O1 : Hid (∀ w : World, Calls Try.prog 14 #[.string a0, .string a1, .bool a2] w fun e w' => e = .returned (.bool false) ∧ Grown w w') := oa14_of a0 a1 a2 false (oa21_high a0 a1 a2 h0 h1 (.inr hh1))
    have O2 : Hid (∀ w : World, Calls Try.prog 14 #[.string a1, .string a0, .bool a2] w fun e w' => e = .returned (.bool false) ∧ Grown w w') := oa14_of a1 a0 a2 false (oa21_high a1 a0 a2 h1 h0 (.inl hh1))
    have O3 : Hid (∀ w : World, Calls Try.prog 14 #[.string a0, .string a1, .bool false] w fun e w' => e = .returned (.bool false) ∧ Grown w w') := oa14_of a0 a1 false false (oa21_high a0 a1 false h0 h1 (.inr hh1))
    have O4 : Hid (∀ w : World, Calls Try.prog 14 #[.string a0, .string a1, .bool true] w fun e w' => e = .returned (.bool false) ∧ Grown w w') := oa14_of a0 a1 true false (oa21_high a0 a1 true h0 h1 (.inr hh1))
    clear hh0
    go_enter Try.func6, Try.ntmps6
    go_wp2_with fail
    refine (bytes16_ok a0 a1 a2 (by omega) _).mono ?_
    rintro e w1 ⟨rfl, rfl⟩
    go_wp2_with fail
    refine (O1.out _).mono ?_
    rintro e u1 ⟨rfl, g1⟩
    have G1 := g1
    clear g1
    go_wp2_with fail
    refine (O2.out _).mono ?_
    rintro e u2 ⟨rfl, g2⟩
    have G2 := grown_trans G1 g2
    clear G1 g2
    go_wp2_with fail
    refine (O3.out _).mono ?_
    rintro e u3 ⟨rfl, g3⟩
    have G3 := grown_trans G2 g3
    clear G2 g3
    go_wp2_with fail
    refine (O4.out _).mono ?_
    rintro e u4 ⟨rfl, g4⟩
    have G4 := grown_trans G3 g4
    clear G3 g4
    go_wp2_with fail
    go_quiet (fail)
    go_wp2
    go_ret
    exact ⟨rfl, G4⟩
  have hh1' : (a1[0].toNat : Int) < 128 := by omega
  clear hh0 hh1
  have A1 := fun any => oa14_of a0 a1 any _ (oa21_low a0 a1 any h0 h1 hh0' hh1')
  have A2 := fun any => oa14_of a1 a0 any _ (oa21_low a1 a0 any h1 h0 hh1' hh0')
  have hc : ∀ any, matchB (a1[0].toNat : Int) (a0[0].toNat : Int) any = matchB (a0[0].toNat : Int) (a1[0].toNat : Int) any := fun any => matchB_comm _ _ any
  by_cases hab : ((a0[0].toNat : Int) == (a1[0].toNat : Int)) = true
  · have hm : ∀ any, matchB (a0[0].toNat : Int) (a1[0].toNat : Int) any = true := fun any => by simp [matchB, hab]
    have hn : ((a0[0].toNat : Int) != (a1[0].toNat : Int)) = false := by simp only [bne, hab, Bool.not_true]
    have O1 : Hid (∀ w : World, Calls Try.prog 14 #[.string a0, .string a1, .bool a2] w fun e w' => e = .returned (.bool false) ∧ Grown w w') := by have h := A1 a2; rw [hm a2] at h; exact h
    have O2 : Hid (∀ w : World, Calls Try.prog 14 #[.string a1, .string a0, .bool a2] w fun e w' => e = .returned (.bool false) ∧ Grown w w') := by have h := A2 a2; rw [hc a2, hm a2] at h; exact h
    have O3 : Hid (∀ w : World, Calls Try.prog 14 #[.string a0, .string a1, .bool false] w fun e w' => e = .returned (.bool false) ∧ Grown w w') := by have h := A1 false; rw [hm false] at h; exact h
    have O4 : Hid (∀ w : World, Calls Try.prog 14 #[.string a0, .string a1, .bool true] w fun e w' => e = .returned (.bool false) ∧ Grown w w') := by have h := A1 true; rw [hm true] at h; exact h
    clear A1 A2 hc hm
    go_enter Try.func6, Try.ntmps6
    go_wp2_with fail
    refine (bytes16_ok a0 a1 a2 (by omega) _).mono ?_
    rintro e w1 ⟨rfl, rfl⟩
    go_wp2_with fail
    refine (O1.out _).mono ?_
    rintro e u1 ⟨rfl, g1⟩
    have G1 := g1
    clear g1
    go_wp2_with fail
    refine (O2.out _).mono ?_
    rintro e u2 ⟨rfl, g2⟩
    have G2 := grown_trans G1 g2
    clear G1 g2
    go_wp2_with fail
    refine (O3.out _).mono ?_
    rintro e u3 ⟨rfl, g3⟩
    have G3 := grown_trans G2 g3
    clear G2 g3
    go_wp2_with fail
    refine (O4.out _).mono ?_
    rintro e u4 ⟨rfl, g4⟩
    have G4 := grown_trans G3 g4
    clear G3 g4
    go_wp2_with fail
    go_quiet (fail)
    go_wp2
    go_ret
    exact ⟨rfl, G4⟩
  have hab' : ((a0[0].toNat : Int) == (a1[0].toNat : Int)) = false := by simpa using hab
  have hn : ((a0[0].toNat : Int) != (a1[0].toNat : Int)) = true := by simp only [bne, hab', Bool.not_false]
  clear hab
  have hmf := matchB_exact _ _ hab'
  have hnl := match_noletter _ _ hab'
  cases hmt : matchB (a0[0].toNat : Int) (a1[0].toNat : Int) true with
  | false =>
    cases a2 with
    | false =>
      have O1 : Hid (∀ w : World, Calls Try.prog 14 #[.string a0, .string a1, .bool false] w fun e w' => e = .returned (.bool true) ∧ Grown w w') := by have h := A1 false; rw [hmf] at h; exact h
      have O2 : Hid (∀ w : World, Calls Try.prog 14 #[.string a1, .string a0, .bool false] w fun e w' => e = .returned (.bool true) ∧ Grown w w') := by have h := A2 false; rw [hc false, hmf] at h; exact h
      have O3 : Hid (∀ w : World, Calls Try.prog 14 #[.string a0, .string a1, .bool false] w fun e w' => e = .returned (.bool true) ∧ Grown w w') := by have h := A1 false; rw [hmf] at h; exact h
      have O4 : Hid (∀ w : World, Calls Try.prog 14 #[.string a0, .string a1, .bool true] w fun e w' => e = .returned (.bool true) ∧ Grown w w') := by have h := A1 true; rw [hmt] at h; exact h
      have OW : Hid (∀ w : World, Calls Try.prog 15 #[.string a0, .string a1, .bool false] w fun e w' => e = .returned (.bool false) ∧ w' = w) := ow_no a0 a1 false h0 h1 hmf
      clear A1 A2 hc hmf hmt hnl
      cases hlt : letB (a0[0].toNat : Int) with
      | false =>
        go_enter Try.func6, Try.ntmps6
        go_wp2_with fail
        refine (bytes16_ok a0 a1 false (by omega) _).mono ?_
        rintro e w1 ⟨rfl, rfl⟩
        go_wp2_with fail
        refine (O1.out _).mono ?_
        rintro e u1 ⟨rfl, g1⟩
        have G1 := g1
        clear g1
        go_wp2_with fail
        refine (O2.out _).mono ?_
        rintro e u2 ⟨rfl, g2⟩
        have G2 := grown_trans G1 g2
        clear G1 g2
        go_wp2_with fail
        refine (O3.out _).mono ?_
        rintro e u3 ⟨rfl, g3⟩
        have G3 := grown_trans G2 g3
        clear G2 g3
        go_wp2_with fail
        refine (O4.out _).mono ?_
        rintro e u4 ⟨rfl, g4⟩
        have G4 := grown_trans G3 g4
        clear G3 g4
        go_wp2_with fail
        refine (OW.out _).mono ?_
        rintro e w3 ⟨rfl, rfl⟩
        go_wp2_with fail
        go_quiet ((go_at_call 17; exact Calls.quiet_of_same (let_any _ _)))
        go_wp2
        go_ret
        exact ⟨rfl, G4⟩
      | true =>
        go_enter Try.func6, Try.ntmps6
        go_wp2_with fail
        refine (bytes16_ok a0 a1 false (by omega) _).mono ?_
        rintro e w1 ⟨rfl, rfl⟩
        go_wp2_with fail
        refine (O1.out _).mono ?_
        rintro e u1 ⟨rfl, g1⟩
        have G1 := g1
        clear g1
        go_wp2_with fail
        refine (O2.out _).mono ?_
        rintro e u2 ⟨rfl, g2⟩
        have G2 := grown_trans G1 g2
        clear G1 g2
        go_wp2_with fail
        refine (O3.out _).mono ?_
        rintro e u3 ⟨rfl, g3⟩
        have G3 := grown_trans G2 g3
        clear G2 g3
        go_wp2_with fail
        refine (O4.out _).mono ?_
        rintro e u4 ⟨rfl, g4⟩
        have G4 := grown_trans G3 g4
        clear G3 g4
        go_wp2_with fail
        refine (OW.out _).mono ?_
        rintro e w3 ⟨rfl, rfl⟩
        go_wp2_with fail
        go_quiet ((go_at_call 17; exact Calls.quiet_of_same (let_any _ _)))
        go_wp2
        go_ret
        exact ⟨rfl, G4⟩
    | true =>
      have O1 : Hid (∀ w : World, Calls Try.prog 14 #[.string a0, .string a1, .bool true] w fun e w' => e = .returned (.bool true) ∧ Grown w w') := by have h := A1 true; rw [hmt] at h; exact h
      have O2 : Hid (∀ w : World, Calls Try.prog 14 #[.string a1, .string a0, .bool true] w fun e w' => e = .returned (.bool true) ∧ Grown w w') := by have h := A2 true; rw [hc true, hmt] at h; exact h
      have O3 : Hid (∀ w : World, Calls Try.prog 14 #[.string a0, .string a1, .bool false] w fun e w' => e = .returned (.bool true) ∧ Grown w w') := by have h := A1 false; rw [hmf] at h; exact h
      have O4 : Hid (∀ w : World, Calls Try.prog 14 #[.string a0, .string a1, .bool true] w fun e w' => e = .returned (.bool true) ∧ Grown w w') := by have h := A1 true; rw [hmt] at h; exact h
      have OW : Hid (∀ w : World, Calls Try.prog 15 #[.string a0, .string a1, .bool true] w fun e w' => e = .returned (.bool false) ∧ w' = w) := ow_no a0 a1 true h0 h1 hmt
      clear A1 A2 hc hmf hmt hnl
      cases hlt : letB (a0[0].toNat : Int) with
      | false =>
        go_enter Try.func6, Try.ntmps6
        go_wp2_with fail
        refine (bytes16_ok a0 a1 true (by omega) _).mono ?_
        rintro e w1 ⟨rfl, rfl⟩
        go_wp2_with fail
        refine (O1.out _).mono ?_
        rintro e u1 ⟨rfl, g1⟩
        have G1 := g1
        clear g1
        go_wp2_with fail
        refine (O2.out _).mono ?_
        rintro e u2 ⟨rfl, g2⟩
        have G2 := grown_trans G1 g2
        clear G1 g2
        go_wp2_with fail
        refine (O3.out _).mono ?_
        rintro e u3 ⟨rfl, g3⟩
        have G3 := grown_trans G2 g3
        clear G2 g3
        go_wp2_with fail
        refine (O4.out _).mono ?_
        rintro e u4 ⟨rfl, g4⟩
        have G4 := grown_trans G3 g4
        clear G3 g4
        go_wp2_with fail
        refine (OW.out _).mono ?_
        rintro e w3 ⟨rfl, rfl⟩
        go_wp2_with fail
        go_quiet ((go_at_call 17; exact Calls.quiet_of_same (let_any _ _)))
        go_wp2
        go_ret
        exact ⟨rfl, G4⟩
      | true =>
        go_enter Try.func6, Try.ntmps6
        go_wp2_with fail
        refine (bytes16_ok a0 a1 true (by omega) _).mono ?_
        rintro e w1 ⟨rfl, rfl⟩
        go_wp2_with fail
        refine (O1.out _).mono ?_
        rintro e u1 ⟨rfl, g1⟩
        have G1 := g1
        clear g1
        go_wp2_with fail
        refine (O2.out _).mono ?_
        rintro e u2 ⟨rfl, g2⟩
        have G2 := grown_trans G1 g2
        clear G1 g2
        go_wp2_with fail
        refine (O3.out _).mono ?_
        rintro e u3 ⟨rfl, g3⟩
        have G3 := grown_trans G2 g3
        clear G2 g3
        go_wp2_with fail
        refine (O4.out _).mono ?_
        rintro e u4 ⟨rfl, g4⟩
        have G4 := grown_trans G3 g4
        clear G3 g4
        go_wp2_with fail
        refine (OW.out _).mono ?_
        rintro e w3 ⟨rfl, rfl⟩
        go_wp2_with fail
        go_quiet ((go_at_call 17; exact Calls.quiet_of_same (let_any _ _)))
        go_wp2
        go_ret
        exact ⟨rfl, G4⟩
  | true =>
    have hlt : letB (a0[0].toNat : Int) = true := by
      cases hl : letB (a0[0].toNat : Int) with
      | true => rfl
      | false => rw [hnl hl] at hmt; cases hmt
    cases a2 with
    | false =>
      have O1 : Hid (∀ w : World, Calls Try.prog 14 #[.string a0, .string a1, .bool false] w fun e w' => e = .returned (.bool true) ∧ Grown w w') := by have h := A1 false; rw [hmf] at h; exact h
      have O2 : Hid (∀ w : World, Calls Try.prog 14 #[.string a1, .string a0, .bool false] w fun e w' => e = .returned (.bool true) ∧ Grown w w') := by have h := A2 false; rw [hc false, hmf] at h; exact h
      have O3 : Hid (∀ w : World, Calls Try.prog 14 #[.string a0, .string a1, .bool false] w fun e w' => e = .returned (.bool true) ∧ Grown w w') := by have h := A1 false; rw [hmf] at h; exact h
      have O4 : Hid (∀ w : World, Calls Try.prog 14 #[.string a0, .string a1, .bool true] w fun e w' => e = .returned (.bool false) ∧ Grown w w') := by have h := A1 true; rw [hmt] at h; exact h
      have OW : Hid (∀ w : World, Calls Try.prog 15 #[.string a0, .string a1, .bool false] w fun e w' => e = .returned (.bool false) ∧ w' = w) := ow_no a0 a1 false h0 h1 hmf
      clear A1 A2 hc hmf hmt hnl
      go_enter Try.func6, Try.ntmps6
      go_wp2_with fail
      refine (bytes16_ok a0 a1 false (by omega) _).mono ?_
      rintro e w1 ⟨rfl, rfl⟩
      go_wp2_with fail
      refine (O1.out _).mono ?_
      rintro e u1 ⟨rfl, g1⟩
      have G1 := g1
      clear g1
      go_wp2_with fail
      refine (O2.out _).mono ?_
      rintro e u2 ⟨rfl, g2⟩
      have G2 := grown_trans G1 g2
      clear G1 g2
      go_wp2_with fail
      refine (O3.out _).mono ?_
      rintro e u3 ⟨rfl, g3⟩
      have G3 := grown_trans G2 g3
      clear G2 g3
      go_wp2_with fail
      refine (O4.out _).mono ?_
      rintro e u4 ⟨rfl, g4⟩
      have G4 := grown_trans G3 g4
      clear G3 g4
      go_wp2_with fail
      refine (OW.out _).mono ?_
      rintro e w3 ⟨rfl, rfl⟩
      go_wp2_with fail
      go_quiet ((go_at_call 17; exact Calls.quiet_of_same (let_any _ _)))
      go_wp2
      go_ret
      exact ⟨rfl, G4⟩
    | true =>
      have O1 : Hid (∀ w : World, Calls Try.prog 14 #[.string a0, .string a1, .bool true] w fun e w' => e = .returned (.bool false) ∧ Grown w w') := by have h := A1 true; rw [hmt] at h; exact h
      have O2 : Hid (∀ w : World, Calls Try.prog 14 #[.string a1, .string a0, .bool true] w fun e w' => e = .returned (.bool false) ∧ Grown w w') := by have h := A2 true; rw [hc true, hmt] at h; exact h
      have O3 : Hid (∀ w : World, Calls Try.prog 14 #[.string a0, .string a1, .bool false] w fun e w' => e = .returned (.bool true) ∧ Grown w w') := by have h := A1 false; rw [hmf] at h; exact h
      have O4 : Hid (∀ w : World, Calls Try.prog 14 #[.string a0, .string a1, .bool true] w fun e w' => e = .returned (.bool false) ∧ Grown w w') := by have h := A1 true; rw [hmt] at h; exact h
      clear A1 A2 hc hmf hmt hnl
      go_enter Try.func6, Try.ntmps6
      go_wp2_with fail
      refine (bytes16_ok a0 a1 true (by omega) _).mono ?_
      rintro e w1 ⟨rfl, rfl⟩
      go_wp2_with fail
      refine (O1.out _).mono ?_
      rintro e u1 ⟨rfl, g1⟩
      have G1 := g1
      clear g1
      go_wp2_with fail
      refine (O2.out _).mono ?_
      rintro e u2 ⟨rfl, g2⟩
      have G2 := grown_trans G1 g2
      clear G1 g2
      go_wp2_with fail
      refine (O3.out _).mono ?_
      rintro e u3 ⟨rfl, g3⟩
      have G3 := grown_trans G2 g3
      clear G2 g3
      go_wp2_with fail
      refine (O4.out _).mono ?_
      rintro e u4 ⟨rfl, g4⟩
      have G4 := grown_trans G3 g4
      clear G3 g4
      go_wp2_with fail
      go_quiet ((go_at_call 17; exact Calls.quiet_of_same (let_any _ _)))
      go_wp2
      go_ret
      exact ⟨rfl, G4⟩

/-! ### THE ROW's STEP: WRITTEN OUT: LEAVE IT -/
set_option maxRecDepth 100000 in
theorem lifted (os : Os) (started : os.Started) (H : Type) (enc : TypeId × Value → H) :
    ReturnsInHanded {} Try.checked os 6 .any (Rows.fnOpensApartSoundAndSymmetricSpec.pre6 enc Try.prog Try.f6 Rows.fnOpensApartSoundAndSymmetricRow.domain false) (Rows.fnOpensApartSoundAndSymmetricSpec.post enc Try.prog Try.f6 false true false false) := by
  refine returnsInHanded_of_change (C := Try.checked) own started (by kernel_rfl) Try.func6
    (ChangeSpec.witness6 (enc := enc) (C := Try.checked) false ⟨#[], #[.string ByteArray.empty, .string ByteArray.empty, .bool false], []⟩ 8 (by kernel_rfl) (by kernel_rfl) (by kernel_rfl) (by kernel_rfl)) ?_
  intro W base args ds gs before hval0 hW hcnd _
  have hval : ∀ (j : Nat) t v, Try.f6.params[j]? = some t → args[j]? = some v → Value.okWide Try.prog W .any base t v := hval0
  have hW' := hW
  obtain ⟨p, q, hA0, hV, rfl, hfz, hnd⟩ := hW
  have hA : DataW.TrodAll enc Try.prog W 0 (fun _ => true) true Try.f6.params.toList args.toList ds p := hA0
  rw [Try.params6] at hA hval
  obtain ⟨v0, vs0, d0, ds0, p0, q0, hargs, rfl, rfl, h0, r0⟩ := trodAll_cons hA
  obtain ⟨v1, vs1, d1, ds1, p1, q1, rfl, rfl, rfl, h1, r1⟩ := trodAll_cons r0
  obtain ⟨v2, vs2, d2, ds2, p2, q2, rfl, rfl, rfl, h2, r2⟩ := trodAll_cons r1
  obtain ⟨rfl, rfl, rfl⟩ := trodAll_nil r2
  obtain rfl : args = #[v0, v1, v2] := by cases args; simp_all
  obtain ⟨rfl, rfl⟩ := trodVars_none hV
  obtain ⟨a0, rfl, rfl, rfl, w0⟩ := open_string Try.underlying9 (hval 0 9 v0 rfl rfl) h0
  obtain ⟨a1, rfl, rfl, rfl, w1⟩ := open_string Try.underlying9 (hval 1 9 v1 rfl rfl) h1
  obtain ⟨a2, rfl, rfl, rfl⟩ := open_bool Try.underlying4 (hval 2 4 v2 rfl rfl) h2
  clear hA0 hval0
  simp only [List.append_nil] at hW'
  refine (walk a0 a1 a2 w0 w1 W).mono fun e W' ⟨he, hg⟩ => ?_
  subst he
  exact ⟨_, rfl, post_of_same (pa := []) (pv := []) hW' (fun _ _ _ => (trodAll_cons_mk (shut_bool Try.underlying4 _) trodAll_mk0)) (fun sp _ => (trodAll_cons_mk (shut_string Try.underlying9 w0) (trodAll_cons_mk (shut_string Try.underlying9 w1) (trodAll_cons_mk (shut_bool Try.underlying4 _) trodAll_mk0)))) (fun _ _ => rfl) rfl
    (hg.frame _) hg.2.1 (ok_one (by kernel_rfl) rfl (okWide_bool_mk Try.underlying4 _))⟩

theorem over : Rows.fnOpensApartSoundAndSymmetricRow.holds Try.pinned (OpenSpec.ofChange Rows.fnOpensApartSoundAndSymmetricSpec) :=
  OpenClaim.holds_of_wide 6 Try.f6 rfl rfl rfl rfl rfl rfl rfl ⟨rfl, rfl, rfl, rfl, rfl⟩ rfl rfl rfl rfl rfl (by kernel_rfl) Try.func6 (by kernel_rfl)
    (of_decide_eq_true (by kernel_rfl)) (by unfold Func.isWrapper; first | (rw [if_pos (by decide +kernel)]; kernel_rfl) | (rw [if_neg (by decide +kernel)]; exact ⟨rfl, rfl⟩))
    (fun os started H enc _ => lifted os started H enc)

/-- ████ THE STATEMENT ████ -/
theorem proved : Rows.FnOpensApartSoundAndSymmetricSaid :=
  over
#print axioms proved
end Go.Proofs.Qxb6604727a.fnOpensApartSoundAndSymmetric
