import Derived.Test.Qxb6604727aRepeat
namespace Go.Proofs.Qxb6604727a
open Go.ChangeShapes Go.WideShapes Go.ChangeAt Go.RowKit

/-! ### The plain functions -/
def lowC (c : Int) : Int := if 65 ≤ c ∧ c ≤ 90 then c + 32 else c
def upC (c : Int) : Int := if 97 ≤ c ∧ c ≤ 122 then c - 32 else c
/-- Do the bytes a and b match, their case aside where any? -/
def matchB (a b : Int) (any : Bool) : Bool := a == b || (any && upC a == upC b)

theorem lowC_bd (c : Int) (h0 : 0 ≤ c) (h1 : c < 256) : 0 ≤ lowC c ∧ lowC c < 256 := by unfold lowC; split <;> omega
theorem upC_bd (c : Int) (h0 : 0 ≤ c) (h1 : c < 256) : 0 ≤ upC c ∧ upC c < 256 := by unfold upC; split <;> omega
theorem low_up (a b : Int) : lowC a = lowC b ↔ upC a = upC b := by
  unfold lowC upC
  constructor <;> intro h <;> (repeat split at h) <;> (repeat split) <;> omega

theorem matchB_eq (a : Int) (any : Bool) : matchB a a any = true := by simp [matchB]
theorem matchB_case (a b : Int) (h : (a == b) = false) : matchB a b true = !(lowC a != lowC b) := by
  have h' : a ≠ b := by simpa using h
  unfold matchB
  rw [h, Bool.eq_iff_iff]
  simp [low_up]
theorem matchB_exact (a b : Int) (h : (a == b) = false) : matchB a b false = false := by simp [matchB, h]
theorem matchB_comm (a b : Int) (any : Bool) : matchB a b any = matchB b a any := by
  unfold matchB
  rw [Bool.eq_iff_iff]
  simp only [Bool.or_eq_true, Bool.and_eq_true, beq_iff_eq]
  constructor <;> rintro (h | ⟨h1, h2⟩)
  · exact .inl h.symm
  · exact .inr ⟨h1, h2.symm⟩
  · exact .inl h.symm
  · exact .inr ⟨h1, h2.symm⟩

theorem ret_int {k : IntKind} {a b : Int} (h : a = b) : Ending.returned (.int k a) = .returned (.int k b) := by rw [h]

/-! ### The walks of the leaves -/
theorem low_any (c : Int) (h0 : 0 ≤ c) (h1 : c < 256) (w : World) :
    Calls Try.prog 24 #[.int .u8 c] w fun e w' => e = .returned (.int .u8 (lowC c)) ∧ w' = w := by
  unfold lowC
  by_cases h2 : 65 ≤ c
  · by_cases h3 : c ≤ 90
    · rw [if_pos ⟨h2, h3⟩]
      go_enter Try.func24, Try.ntmps24
      go_wp2
      go_ret
      exact ⟨ret_int (by omega), rfl⟩
    · rw [if_neg (by omega)]
      go_enter Try.func24, Try.ntmps24
      go_wp2
      go_ret
      exact ⟨rfl, rfl⟩
  · rw [if_neg (by omega)]
    go_enter Try.func24, Try.ntmps24
    go_wp2
    go_ret
    exact ⟨rfl, rfl⟩

theorem up_any (c : Int) (h0 : 0 ≤ c) (h1 : c < 256) (w : World) :
    Calls Try.prog 22 #[.int .u8 c] w fun e w' => e = .returned (.int .u8 (upC c)) ∧ w' = w := by
  unfold upC
  by_cases h2 : 97 ≤ c
  · by_cases h3 : c ≤ 122
    · rw [if_pos ⟨h2, h3⟩]
      go_enter Try.func22, Try.ntmps22
      go_wp2
      go_ret
      exact ⟨ret_int rfl, rfl⟩
    · rw [if_neg (by omega)]
      go_enter Try.func22, Try.ntmps22
      go_wp2
      go_ret
      exact ⟨rfl, rfl⟩
  · rw [if_neg (by omega)]
    go_enter Try.func22, Try.ntmps22
    go_wp2
    go_ret
    exact ⟨rfl, rfl⟩

theorem up_byte (b : UInt8) (w : World) :
    Calls Try.prog 22 #[.int .u8 (b.toNat : Int)] w fun e w' => e = .returned (.int .u8 (upC (b.toNat : Int))) ∧ w' = w :=
  up_any _ (by omega) (by have := b.toNat_lt; omega) w

/-! ### opensApart -/
theorem empty_yes (s : ByteArray) (h : s.size = 0) : s.toList.isEmpty = true := by
  rw [ByteArray.toList_eq, List.isEmpty_iff]
  apply List.eq_nil_of_length_eq_zero
  rw [Array.length_toList]
  exact h

theorem empty_no (s : ByteArray) (h : 0 < s.size) : s.toList.isEmpty = false := by
  rw [ByteArray.toList_eq, List.isEmpty_eq_false_iff]
  intro k
  have k2 := congrArg List.length k
  rw [Array.length_toList] at k2
  have : s.size = 0 := k2
  omega

theorem oa21_empty (s u : ByteArray) (any : Bool) (h : s.size = 0 ∨ u.size = 0) (w : World) :
    Calls Try.prog 21 #[.string s, .string u, .bool any] w fun e w' => e = .returned (.bool false) ∧ Grown w w' := by
  by_cases hs : s.size = 0
  · have e1 := empty_yes s hs
    clear h hs
    go_enter Try.func21, Try.ntmps21
    go_wp2
    go_ret
    exact ⟨rfl, Grown.refl _⟩
  · have e1 := empty_no s (by omega)
    have e2 := empty_yes u (by omega)
    clear h hs
    go_enter Try.func21, Try.ntmps21
    go_wp2
    go_ret
    exact ⟨rfl, Grown.refl _⟩

theorem oa21_high (s u : ByteArray) (any : Bool) (hs : 0 < s.size) (hu : 0 < u.size) (h : (128 : Int) ≤ (s[0].toNat : Int) ∨ (128 : Int) ≤ (u[0].toNat : Int)) (w : World) :
    Calls Try.prog 21 #[.string s, .string u, .bool any] w fun e w' => e = .returned (.bool false) ∧ Grown w w' := by
  have e1 := empty_no s hs
  have e2 := empty_no u hu
  by_cases hab : ((s[0].toNat : Int) == (u[0].toNat : Int)) = true
  · clear h
    go_enter Try.func21, Try.ntmps21
    go_wp2
    go_quiet (fail)
    go_wp2
    go_ret
    exact ⟨rfl, Grown.refl _⟩
  · have hab' : ((s[0].toNat : Int) == (u[0].toNat : Int)) = false := by simpa using hab
    clear hab
    by_cases h1 : (128 : Int) ≤ (s[0].toNat : Int)
    · clear h
      go_enter Try.func21, Try.ntmps21
      go_wp2
      go_quiet (fail)
      go_wp2
      go_ret
      exact ⟨rfl, Grown.refl _⟩
    · have h2 : (128 : Int) ≤ (u[0].toNat : Int) := by omega
      clear h
      go_enter Try.func21, Try.ntmps21
      go_wp2
      go_quiet (fail)
      go_wp2
      go_ret
      exact ⟨rfl, Grown.refl _⟩

set_option maxRecDepth 4000 in
set_option maxHeartbeats 1000000 in
theorem oa21_low (s u : ByteArray) (any : Bool) (hs : 0 < s.size) (hu : 0 < u.size) (h1 : (s[0].toNat : Int) < 128) (h2 : (u[0].toNat : Int) < 128) (w : World) :
    Calls Try.prog 21 #[.string s, .string u, .bool any] w fun e w' => e = .returned (.bool (!matchB (s[0].toNat : Int) (u[0].toNat : Int) any)) ∧ Grown w w' := by
  have e1 := empty_no s hs
  have e2 := empty_no u hu
  by_cases hab : ((s[0].toNat : Int) == (u[0].toNat : Int)) = true
  · have hm : matchB (s[0].toNat : Int) (u[0].toNat : Int) any = true := by simp [matchB, hab]
    rw [hm]
    clear hm
    go_enter Try.func21, Try.ntmps21
    go_wp2
    go_quiet (fail)
    go_wp2
    go_ret
    exact ⟨rfl, Grown.refl _⟩
  · have hab' : ((s[0].toNat : Int) == (u[0].toNat : Int)) = false := by simpa using hab
    clear hab
    cases any with
    | false =>
      rw [matchB_exact _ _ hab']
      go_enter Try.func21, Try.ntmps21
      go_wp2
      go_quiet (fail)
      go_wp2
      go_ret
      exact ⟨rfl, Grown.refl _⟩
    | true =>
      rw [matchB_case _ _ hab', Bool.not_not]
      go_enter Try.func21, Try.ntmps21
      go_wp2
      go_quiet (fail)
      go_wp2_with fail
      refine (low_any _ (by omega) (by omega) _).mono ?_
      rintro e w1 ⟨rfl, rfl⟩
      go_wp2_with fail
      refine (low_any _ (by omega) (by omega) _).mono ?_
      rintro e w1 ⟨rfl, rfl⟩
      go_wp2
      go_ret
      exact ⟨rfl, Grown.refl _⟩

theorem oa14_of (s u : ByteArray) (any b : Bool) (H : ∀ w : World, Calls Try.prog 21 #[.string s, .string u, .bool any] w fun e w' => e = .returned (.bool b) ∧ Grown w w') (w : World) :
    Calls Try.prog 14 #[.string s, .string u, .bool any] w fun e w' => e = .returned (.bool b) ∧ Grown w w' := by
  have HH : Hid (∀ w : World, Calls Try.prog 21 #[.string s, .string u, .bool any] w fun e w' => e = .returned (.bool b) ∧ Grown w w') := H
  clear H
  go_enter Try.func14, Try.ntmps14
  go_wp2_with fail
  refine (HH.out _).mono ?_
  rintro e w' ⟨rfl, hg⟩
  go_wp2
  go_ret
  exact ⟨rfl, hg⟩

/-! ### The bound on the lengths -/
theorem bytes13_ok (s u : ByteArray) (any : Bool) (h : s.size + u.size ≤ 1048576) (w : World) :
    Calls Try.prog 13 #[.string s, .string u, .bool any] w fun e w' => e = .returned (.bool true) ∧ w' = w := by
  go_enter Try.func13, Try.ntmps13
  go_wp2
  go_ret
  exact ⟨rfl, rfl⟩

theorem bytes13_no (s u : ByteArray) (any : Bool) (hs : s.size ≤ 9223372036854775807) (hu : u.size ≤ 9223372036854775807) (h : 1048576 < s.size + u.size) (w : World) :
    Calls Try.prog 13 #[.string s, .string u, .bool any] w fun e w' => e = .returned (.bool false) ∧ w' = w := by
  by_cases h1 : 1048576 < s.size
  · go_enter Try.func13, Try.ntmps13
    go_wp2
    go_ret
    exact ⟨rfl, rfl⟩
  · by_cases h2 : 1048576 < u.size
    · go_enter Try.func13, Try.ntmps13
      go_wp2
      go_ret
      exact ⟨rfl, rfl⟩
    · go_enter Try.func13, Try.ntmps13
      go_wp2
      go_ret
      exact ⟨rfl, rfl⟩

theorem bytes16_ok (s u : ByteArray) (any : Bool) (h : s.size + u.size ≤ 1048576) (w : World) :
    Calls Try.prog 16 #[.string s, .string u, .bool any] w fun e w' => e = .returned (.bool true) ∧ w' = w := by
  go_enter Try.func16, Try.ntmps16
  go_wp2
  go_ret
  exact ⟨rfl, rfl⟩

theorem bytes16_no (s u : ByteArray) (any : Bool) (hs : s.size ≤ 9223372036854775807) (hu : u.size ≤ 9223372036854775807) (h : 1048576 < s.size + u.size) (w : World) :
    Calls Try.prog 16 #[.string s, .string u, .bool any] w fun e w' => e = .returned (.bool false) ∧ w' = w := by
  by_cases h1 : 1048576 < s.size
  · go_enter Try.func16, Try.ntmps16
    go_wp2
    go_ret
    exact ⟨rfl, rfl⟩
  · by_cases h2 : 1048576 < u.size
    · go_enter Try.func16, Try.ntmps16
      go_wp2
      go_ret
      exact ⟨rfl, rfl⟩
    · go_enter Try.func16, Try.ntmps16
      go_wp2
      go_ret
      exact ⟨rfl, rfl⟩

/-! ### zzOpensWith -/
theorem matchB_no {a b : Int} {any : Bool} (h : matchB a b any = false) : (a == b) = false ∧ (any = true → (upC a == upC b) = false) := by
  unfold matchB at h
  simp only [Bool.or_eq_false_iff, Bool.and_eq_false_iff] at h
  refine ⟨h.1, fun e => ?_⟩
  rcases h.2 with k | k
  · rw [e] at k; cases k
  · exact k

set_option maxRecDepth 4000 in
set_option maxHeartbeats 1000000 in
theorem ow_no (s u : ByteArray) (any : Bool) (hs : 0 < s.size) (hu : 0 < u.size) (hm : matchB (s[0].toNat : Int) (u[0].toNat : Int) any = false) (w : World) :
    Calls Try.prog 15 #[.string s, .string u, .bool any] w fun e w' => e = .returned (.bool false) ∧ w' = w := by
  obtain ⟨hab, hup⟩ := matchB_no hm
  clear hm
  by_cases hlen : s.size < u.size
  · clear hab hup
    go_enter Try.func15, Try.ntmps15
    go_wp2
    go_ret
    exact ⟨rfl, rfl⟩
  · cases any with
    | false =>
      clear hup
      go_enter Try.func15, Try.ntmps15
      go_wp2
      go_loop [7] (fun vi => vi = .int .i64 0) (fun _ => 0)
      case atStart => rfl
      case round =>
        subst hrel
        go_wp2
        go_ret
        exact ⟨rfl, rfl⟩
    | true =>
      have hup' := hup rfl
      clear hup
      go_enter Try.func15, Try.ntmps15
      go_wp2
      go_loop [7] (fun vi => vi = .int .i64 0) (fun _ => 0)
      case atStart => rfl
      case round =>
        subst hrel
        go_wp2_with fail
        refine (up_byte _ _).mono ?_
        rintro e w1 ⟨rfl, rfl⟩
        go_wp2_with fail
        refine (up_byte _ _).mono ?_
        rintro e w1 ⟨rfl, rfl⟩
        go_wp2
        go_ret
        exact ⟨rfl, rfl⟩

theorem matchB_yes {a b : Int} {any : Bool} (h : matchB a b any = true) : (a == b) = true ∨ ((a == b) = false ∧ any = true ∧ (upC a == upC b) = true) := by
  unfold matchB at h
  cases e : (a == b)
  · rw [e] at h
    simp only [Bool.false_or, Bool.and_eq_true] at h
    exact .inr ⟨rfl, h.1, h.2⟩
  · exact .inl rfl

set_option maxRecDepth 4000 in
set_option maxHeartbeats 1000000 in
theorem ow_yes (s u : ByteArray) (any : Bool) (hs : 0 < s.size) (hu : 0 < u.size) (hs2 : s.size < 2) (hu2 : u.size < 2) (hm : matchB (s[0].toNat : Int) (u[0].toNat : Int) any = true) (w : World) :
    Calls Try.prog 15 #[.string s, .string u, .bool any] w fun e w' => e = .returned (.bool true) ∧ w' = w := by
  have hlen : ¬ s.size < u.size := by omega
  rcases matchB_yes hm with hab | ⟨hab, rfl, hup⟩
  · clear hm
    go_enter Try.func15, Try.ntmps15
    go_wp2
    go_loop [7] (fun vi => ∃ k : Nat, k < 2 ∧ vi = .int .i64 (k : Int)) (fun vi => 2 - (intOf vi).toNat)
    case atStart => exact ⟨0, by omega, rfl⟩
    case round =>
      obtain ⟨k, hk, rfl⟩ := hrel
      match k, hk with
      | 0, _ =>
        go_wp2
        go_round
        case rel => exact ⟨1, by omega, by go_num⟩
        case measure => simp [intOf]
      | 1, _ =>
        go_wp2
        go_ret
        exact ⟨rfl, rfl⟩
  · clear hm
    go_enter Try.func15, Try.ntmps15
    go_wp2
    go_loop [7] (fun vi => ∃ k : Nat, k < 2 ∧ vi = .int .i64 (k : Int)) (fun vi => 2 - (intOf vi).toNat)
    case atStart => exact ⟨0, by omega, rfl⟩
    case round =>
      obtain ⟨k, hk, rfl⟩ := hrel
      match k, hk with
      | 0, _ =>
        go_wp2_with fail
        refine (up_byte _ _).mono ?_
        rintro e w1 ⟨rfl, rfl⟩
        go_wp2_with fail
        refine (up_byte _ _).mono ?_
        rintro e w1 ⟨rfl, rfl⟩
        go_wp2
        go_round
        case rel => exact ⟨1, by omega, by go_num⟩
        case measure => simp [intOf]
      | 1, _ =>
        go_wp2
        go_ret
        exact ⟨rfl, rfl⟩

theorem extract_one (s : ByteArray) (h : 0 < s.size) : ∃ h2 : 0 < (s.extract 0 1).size, (s.extract 0 1).size < 2 ∧ (s.extract 0 1)[0] = s[0] := by
  have e : (s.extract 0 1).size = 1 := by rw [ByteArray.size_extract]; omega
  refine ⟨by omega, by omega, ?_⟩
  simp [ByteArray.getElem_extract]

/-- zzOpensWith at the first byte of each. -/
theorem ow_first (s u : ByteArray) (any : Bool) (hs : 0 < s.size) (hu : 0 < u.size) (w : World) :
    Calls Try.prog 15 #[.string (s.extract 0 1), .string (u.extract 0 1), .bool any] w fun e w' => e = .returned (.bool (matchB (s[0].toNat : Int) (u[0].toNat : Int) any)) ∧ w' = w := by
  obtain ⟨a1, a2, a3⟩ := extract_one s hs
  obtain ⟨b1, b2, b3⟩ := extract_one u hu
  cases hm : matchB (s[0].toNat : Int) (u[0].toNat : Int) any
  · exact ow_no _ _ any a1 b1 (by rw [a3, b3]; exact hm) w
  · exact ow_yes _ _ any a1 b1 a2 b2 (by rw [a3, b3]; exact hm) w

end Go.Proofs.Qxb6604727a
