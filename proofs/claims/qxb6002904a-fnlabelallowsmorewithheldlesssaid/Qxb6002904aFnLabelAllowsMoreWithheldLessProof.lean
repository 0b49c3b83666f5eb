import Derived.Test.Qxb6002904aRows
import Derived.WalkKit
import Derived.ProofKit
import Derived.OpenShut
import Derived.ShutString
import Derived.Test.Qxb6002904aPlain
namespace Go.Proofs.Qxb6002904a.fnLabelAllowsMoreWithheldLess
open Go.ChangeShapes Go.WideShapes Go.ChangeAt Go.RowKit
open Go.ChangeMaps (open_string shut_string)
set_option linter.unusedVariables false      -- a walk need not use every 'w<i>' (that an integer argument fits its kind)

theorem own : ownKnob Try.prog.godebug = none := by kernel_rfl

/-! ### STEP 1: THE WALK: the Go text returns true. 'Grown w w'': the world has at most new blocks (Derived/RowKit3.lean). Part the cases AHEAD of 'go_enter' where a test parts the walk; take each callee by a contract of your own. -/
theorem walk (a0 : Int) (a1 : Int) (a2 : Int) (a3 : Int) (a4 : Int) (a5 : Int) (w0 : (Lit.int .u32 a0).wf = true) (w1 : (Lit.int .u32 a1).wf = true) (w2 : (Lit.int .u32 a2).wf = true) (w3 : (Lit.int .u32 a3).wf = true) (w4 : (Lit.int .u32 a4).wf = true) (w5 : (Lit.int .u32 a5).wf = true) (w : World) :
    Calls Try.prog 3 #[.int .u32 a0, .int .u32 a1, .int .u32 a2, .int .u32 a3, .int .u32 a4, .int .u32 a5] w fun e w' => e = .returned (.bool true) ∧ Grown w w' := by
  have c0 := bounds_u32 w0
  have c1 := bounds_u32 w1
  have c2 := bounds_u32 w2
  have c3 := bounds_u32 w3
  have c4 := bounds_u32 w4
  have c5 := bounds_u32 w5
  clear w0 w1 w2 w3 w4 w5
  have M1 := map_any a2 a3 a4 a5 2147483648
  have M2 := map_any a2 a3 a4 a5 1073741824
  have M3 := map_any a2 a3 a4 a5 536870912
  have L1 := zzLab_not a0 a2 a3 a4 a5
  have L2 := zzLab_not (bits .or .u32 a0 a1) a2 a3 a4 a5
  have L3 := zzLab_dom a0 a2 a3 a4 a5
  obtain ⟨r, hr⟩ : ∃ r, r = mapF a2 a3 a4 a5 2147483648 := ⟨_, rfl⟩
  obtain ⟨wv, hw⟩ : ∃ wv, wv = mapF a2 a3 a4 a5 1073741824 := ⟨_, rfl⟩
  obtain ⟨x, hx⟩ : ∃ x, x = mapF a2 a3 a4 a5 536870912 := ⟨_, rfl⟩
  obtain ⟨p1, p2, p3⟩ := law a0 a1 a2 a3 a4 a5 c0.1 c0.2 c1.1 c1.2 c2.1 c2.2 c3.1 c3.2 c4.1 c4.2 c5.1 c5.2 r wv x hr hw hx
  rw [← hr] at M1
  rw [← hw] at M2
  rw [← hx] at M3
  rw [← hr, ← hw, ← hx] at L1 L2 L3
  clear hr hw hx c0 c1 c2 c3 c4 c5
  obtain ⟨less, hl⟩ : ∃ l, l = labF a0 r wv x := ⟨_, rfl⟩
  obtain ⟨more, hm⟩ : ∃ l, l = labF (bits .or .u32 a0 a1) r wv x := ⟨_, rfl⟩
  obtain ⟨dom, hd⟩ : ∃ l, l = bits .or .u32 (bits .or .u32 r wv) x := ⟨_, rfl⟩
  rw [← hl] at L1 p2 p3
  rw [← hm] at L2 p2
  rw [← hd] at L3 p3
  clear hl hm
  have p4 : (dom == bits .or .u32 (bits .or .u32 r wv) x) = true := by rw [hd]; simp
  clear hd
  have HM1 := kept M1
  have HM2 := kept M2
  have HM3 := kept M3
  have HL1 := kept L1
  have HL2 := kept L2
  have HL3 := kept L3
  clear M1 M2 M3 L1 L2 L3
  cases hg : (bits .and .u32 (bits .or .u32 (bits .or .u32 a2 a3) a4) 4026531840 == 0) with
  | true =>
    obtain ⟨q1, q2, q3⟩ := p1 hg
    have n1 : (r != a2) = false := by rw [q1]; simp
    have n2 : (wv != a3) = false := by rw [q2]; simp
    have n3 : (x != a4) = false := by rw [q3]; simp
    clear p1 q1 q2 q3
    go_enter Try.func3, Try.ntmps3
    go_wp2_with fail
    refine (mapping_any _ _ _ _ _).mono ?_
    rintro e w1 ⟨rfl, rfl⟩
    go_wp2_with fail
    refine (HM1.out _).mono ?_
    rintro e w2 ⟨rfl, rfl⟩
    go_wp2_with fail
    refine (HM2.out _).mono ?_
    rintro e w3 ⟨rfl, rfl⟩
    go_wp2_with fail
    refine (HM3.out _).mono ?_
    rintro e w4 ⟨rfl, rfl⟩
    go_wp2_with fail
    refine (HL1.out _).mono ?_
    rintro e w5 ⟨rfl, g5⟩
    go_wp2_with fail
    refine (HL2.out _).mono ?_
    rintro e w6 ⟨rfl, g6⟩
    go_wp2_with fail
    refine (HL3.out _).mono ?_
    rintro e w7 ⟨rfl, g7⟩
    have G := grown_trans (grown_trans g5 g6) g7
    clear g5 g6 g7
    go_wp2
    go_ret
    exact ⟨rfl, grown_trans ((((((Grown.refl w).alloc _ _).alloc _ _).alloc _ _).alloc _ _).alloc _ _) G⟩
  | false =>
    clear p1
    go_enter Try.func3, Try.ntmps3
    go_wp2_with fail
    refine (mapping_any _ _ _ _ _).mono ?_
    rintro e w1 ⟨rfl, rfl⟩
    go_wp2_with fail
    refine (HM1.out _).mono ?_
    rintro e w2 ⟨rfl, rfl⟩
    go_wp2_with fail
    refine (HM2.out _).mono ?_
    rintro e w3 ⟨rfl, rfl⟩
    go_wp2_with fail
    refine (HM3.out _).mono ?_
    rintro e w4 ⟨rfl, rfl⟩
    go_wp2_with fail
    refine (HL1.out _).mono ?_
    rintro e w5 ⟨rfl, g5⟩
    go_wp2_with fail
    refine (HL2.out _).mono ?_
    rintro e w6 ⟨rfl, g6⟩
    go_wp2_with fail
    refine (HL3.out _).mono ?_
    rintro e w7 ⟨rfl, g7⟩
    have G := grown_trans (grown_trans g5 g6) g7
    clear g5 g6 g7
    go_wp2
    go_ret
    exact ⟨rfl, grown_trans ((((((Grown.refl w).alloc _ _).alloc _ _).alloc _ _).alloc _ _).alloc _ _) G⟩

/-! ### THE ROW's STEP: WRITTEN OUT: LEAVE IT -/
set_option maxRecDepth 100000 in
theorem lifted (os : Os) (started : os.Started) (H : Type) (enc : TypeId × Value → H) :
    ReturnsInHanded {} Try.checked os 3 .any (Rows.fnLabelAllowsMoreWithheldLessSpec.pre6 enc Try.prog Try.f3 Rows.fnLabelAllowsMoreWithheldLessRow.domain false) (Rows.fnLabelAllowsMoreWithheldLessSpec.post enc Try.prog Try.f3 false true false false) := by
  refine returnsInHanded_of_change (C := Try.checked) own started (by kernel_rfl) Try.func3
    (ChangeSpec.witness6 (enc := enc) (C := Try.checked) false ⟨#[], #[.int .u32 0, .int .u32 0, .int .u32 0, .int .u32 0, .int .u32 0, .int .u32 0], []⟩ 8 (by kernel_rfl) (by kernel_rfl) (by kernel_rfl) (by kernel_rfl)) ?_
  intro W base args ds gs before hval0 hW hcnd _
  have hval : ∀ (j : Nat) t v, Try.f3.params[j]? = some t → args[j]? = some v → Value.okWide Try.prog W .any base t v := hval0
  have hW' := hW
  obtain ⟨p, q, hA0, hV, rfl, hfz, hnd⟩ := hW
  have hA : DataW.TrodAll enc Try.prog W 0 (fun _ => true) true Try.f3.params.toList args.toList ds p := hA0
  rw [Try.params3] at hA hval
  obtain ⟨v0, vs0, d0, ds0, p0, q0, hargs, rfl, rfl, h0, r0⟩ := trodAll_cons hA
  obtain ⟨v1, vs1, d1, ds1, p1, q1, rfl, rfl, rfl, h1, r1⟩ := trodAll_cons r0
  obtain ⟨v2, vs2, d2, ds2, p2, q2, rfl, rfl, rfl, h2, r2⟩ := trodAll_cons r1
  obtain ⟨v3, vs3, d3, ds3, p3, q3, rfl, rfl, rfl, h3, r3⟩ := trodAll_cons r2
  obtain ⟨v4, vs4, d4, ds4, p4, q4, rfl, rfl, rfl, h4, r4⟩ := trodAll_cons r3
  obtain ⟨v5, vs5, d5, ds5, p5, q5, rfl, rfl, rfl, h5, r5⟩ := trodAll_cons r4
  obtain ⟨rfl, rfl, rfl⟩ := trodAll_nil r5
  obtain rfl : args = #[v0, v1, v2, v3, v4, v5] := by cases args; simp_all
  obtain ⟨rfl, rfl⟩ := trodVars_none hV
  obtain ⟨a0, rfl, rfl, rfl, w0⟩ := open_int Try.underlying22 (hval 0 22 v0 rfl rfl) h0
  obtain ⟨a1, rfl, rfl, rfl, w1⟩ := open_int Try.underlying22 (hval 1 22 v1 rfl rfl) h1
  obtain ⟨a2, rfl, rfl, rfl, w2⟩ := open_int Try.underlying22 (hval 2 22 v2 rfl rfl) h2
  obtain ⟨a3, rfl, rfl, rfl, w3⟩ := open_int Try.underlying22 (hval 3 22 v3 rfl rfl) h3
  obtain ⟨a4, rfl, rfl, rfl, w4⟩ := open_int Try.underlying22 (hval 4 22 v4 rfl rfl) h4
  obtain ⟨a5, rfl, rfl, rfl, w5⟩ := open_int Try.underlying22 (hval 5 22 v5 rfl rfl) h5
  clear hA0 hval0
  simp only [List.append_nil] at hW'
  refine (walk a0 a1 a2 a3 a4 a5 w0 w1 w2 w3 w4 w5 W).mono fun e W' ⟨he, hg⟩ => ?_
  subst he
  exact ⟨_, rfl, post_of_same (pa := []) (pv := []) hW' (fun _ _ _ => (trodAll_cons_mk (shut_bool Try.underlying4 _) trodAll_mk0)) (fun sp _ => (trodAll_cons_mk (shut_int Try.underlying22 w0) (trodAll_cons_mk (shut_int Try.underlying22 w1) (trodAll_cons_mk (shut_int Try.underlying22 w2) (trodAll_cons_mk (shut_int Try.underlying22 w3) (trodAll_cons_mk (shut_int Try.underlying22 w4) (trodAll_cons_mk (shut_int Try.underlying22 w5) trodAll_mk0))))))) (fun _ _ => rfl) rfl
    (hg.frame _) hg.2.1 (ok_one (by kernel_rfl) rfl (okWide_bool_mk Try.underlying4 _))⟩

theorem over : Rows.fnLabelAllowsMoreWithheldLessRow.holds Try.pinned (OpenSpec.ofChange Rows.fnLabelAllowsMoreWithheldLessSpec) :=
  OpenClaim.holds_of_wide 3 Try.f3 rfl rfl rfl rfl rfl rfl rfl ⟨rfl, rfl, rfl, rfl, rfl⟩ rfl rfl rfl rfl rfl (by kernel_rfl) Try.func3 (by kernel_rfl)
    (of_decide_eq_true (by kernel_rfl)) (by unfold Func.isWrapper; first | (rw [if_pos (by decide +kernel)]; kernel_rfl) | (rw [if_neg (by decide +kernel)]; exact ⟨rfl, rfl⟩))
    (fun os started H enc _ => lifted os started H enc)

/-- ████ THE STATEMENT ████ -/
theorem proved : Rows.FnLabelAllowsMoreWithheldLessSaid :=
  over
#print axioms proved
end Go.Proofs.Qxb6002904a.fnLabelAllowsMoreWithheldLess
