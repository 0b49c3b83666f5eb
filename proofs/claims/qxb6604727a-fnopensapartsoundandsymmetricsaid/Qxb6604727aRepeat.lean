import Derived.Test.Qxb6604727aLabel
namespace Go.Proofs.Qxb6604727a
open Go.ChangeShapes Go.WideShapes Go.ChangeAt Go.RowKit

theorem bytes8_ok (s : ByteArray) (h : s.size ≤ 1048576) (w : World) :
    Calls Try.prog 8 #[.string s] w fun e w' => e = .returned (.bool true) ∧ w' = w := by
  go_enter Try.func8, Try.ntmps8
  go_wp2
  go_ret
  exact ⟨rfl, rfl⟩

theorem bytes8_no (s : ByteArray) (h : 1048576 < s.size) (w : World) :
    Calls Try.prog 8 #[.string s] w fun e w' => e = .returned (.bool false) ∧ w' = w := by
  go_enter Try.func8, Try.ntmps8
  go_wp2
  go_ret
  exact ⟨rfl, rfl⟩

/-- The byte at place k, the index said as the walk writes it. -/
theorem index_at (s : ByteArray) (i : Int) (k : Nat) (hi : i = (k : Int)) (h : k < s.size) (w : World) :
    (Instr.index 9 (.string s) (.int .i64 i)).run Try.prog w = .ok (.int .u8 (s[k].toNat : Int)) w := by
  subst hi
  rw [run_index_string w 9 s .i64 _ Try.underlying9]
  simp [h]

set_option maxHeartbeats 1000000 in
theorem repeated_yes (s : ByteArray) (h0 : 0 < s.size) (hb : s.size ≤ 200000) (hall : ∀ k (h : k < s.size), s[k] = s[0]) (w : World) :
    Calls Try.prog 9 #[.string s] w fun e w' => e = .returned (.bool true) ∧ Grown w w' := by
  have HA : Hid (∀ k (h : k < s.size), s[k] = s[0]) := hall
  clear hall
  go_enter Try.func9, Try.ntmps9
  go_wp2
  go_loopw [3] (fun vi wr => ∃ k : Nat, 1 ≤ k ∧ k ≤ s.size ∧ vi = .int .i64 (k : Int) ∧ Hid (Grown w wr)) (fun vi _ => s.size - (intOf vi).toNat)
  case atStart => exact ⟨1, by omega, by omega, rfl, Grown.refl w⟩
  case round =>
    obtain ⟨k, hk1, hk, rfl, hgr⟩ := hrel
    by_cases hlt : k < s.size
    · have e1 : ((s[k].toNat : Int) != (s[k - 1].toNat : Int)) = false := by rw [HA.out k hlt, HA.out (k - 1) (by omega)]; simp
      have ix := index_at s ((k : Int) - 1) (k - 1) (by omega) (by omega)
      go_wp2
      go_quiet (fail)
      go_wp2
      go_roundw
      case rel => exact ⟨k + 1, by omega, by omega, by go_num, hgr⟩
      case measure => simp [intOf]; omega
    · go_wp2
      go_ret
      exact ⟨rfl, hgr.out⟩

set_option maxHeartbeats 1000000 in
theorem repeated_no (s : ByteArray) (m : Nat) (hm : m < s.size) (hb : s.size ≤ 200000) (hall : ∀ k (h : k < m), s[k] = s[0]) (hne : s[m] ≠ s[0]) (w : World) :
    Calls Try.prog 9 #[.string s] w fun e w' => e = .returned (.bool false) ∧ Grown w w' := by
  have h0 : 0 < s.size := by omega
  have hm1 : 1 ≤ m := by
    rcases Nat.eq_zero_or_pos m with h | h
    · subst h; exact absurd rfl hne
    · exact h
  have HA : Hid (∀ k (h : k < m), s[k] = s[0]) := hall
  have HN : Hid (s[m] ≠ s[0]) := hne
  clear hall hne
  go_enter Try.func9, Try.ntmps9
  go_wp2
  go_loopw [3] (fun vi wr => ∃ k : Nat, 1 ≤ k ∧ k ≤ m ∧ vi = .int .i64 (k : Int) ∧ Hid (Grown w wr)) (fun vi _ => s.size - (intOf vi).toNat)
  case atStart => exact ⟨1, by omega, by omega, rfl, Grown.refl w⟩
  case round =>
    obtain ⟨k, hk1, hk, rfl, hgr⟩ := hrel
    have hlt : k < s.size := by omega
    have ix := index_at s ((k : Int) - 1) (k - 1) (by omega) (by omega)
    by_cases hkm : k < m
    · have e1 : ((s[k].toNat : Int) != (s[k - 1].toNat : Int)) = false := by rw [HA.out k hkm, HA.out (k - 1) (by omega)]; simp
      go_wp2
      go_quiet (fail)
      go_wp2
      go_roundw
      case rel => exact ⟨k + 1, by omega, by omega, by go_num, hgr⟩
      case measure => simp [intOf]; omega
    · have e1 : ((s[k].toNat : Int) != (s[k - 1].toNat : Int)) = true := by
        obtain rfl : k = m := by omega
        have := HN.out
        rw [HA.out (k - 1) (by omega)]
        simp only [bne_iff_ne, ne_eq]
        intro h
        exact this (UInt8.toNat_inj.1 (by omega))
      go_wp2
      go_quiet (fail)
      go_wp2
      go_ret
      exact ⟨rfl, hgr.out⟩

theorem lower_no (s : ByteArray) (h0 : 0 < s.size) (hc : (s[0].toNat : Int) < 97 ∨ 122 < (s[0].toNat : Int)) (w : World) :
    Calls Try.prog 10 #[.string s] w fun e w' => e = .returned (.bool false) ∧ w' = w := by
  rcases hc with hc | hc
  · go_enter Try.func10, Try.ntmps10
    go_wp2
    go_loop [3] (fun vi => vi = .int .i64 0) (fun _ => 0)
    case atStart => rfl
    case round =>
      subst hrel
      go_wp2
      go_ret
      exact ⟨rfl, rfl⟩
  · go_enter Try.func10, Try.ntmps10
    go_wp2
    go_loop [3] (fun vi => vi = .int .i64 0) (fun _ => 0)
    case atStart => rfl
    case round =>
      subst hrel
      go_wp2
      go_ret
      exact ⟨rfl, rfl⟩

set_option maxHeartbeats 1000000 in
theorem lower_yes (s : ByteArray) (hb : s.size ≤ 200000) (hall : ∀ k (h : k < s.size), 97 ≤ s[k].toNat ∧ s[k].toNat ≤ 122) (w : World) :
    Calls Try.prog 10 #[.string s] w fun e w' => e = .returned (.bool true) ∧ w' = w := by
  have HA : Hid (∀ k (h : k < s.size), 97 ≤ s[k].toNat ∧ s[k].toNat ≤ 122) := hall
  clear hall
  go_enter Try.func10, Try.ntmps10
  go_wp2
  go_loop [3] (fun vi => ∃ k : Nat, k ≤ s.size ∧ vi = .int .i64 (k : Int)) (fun vi => s.size - (intOf vi).toNat)
  case atStart => exact ⟨0, by omega, rfl⟩
  case round =>
    obtain ⟨k, hk, rfl⟩ := hrel
    by_cases hlt : k < s.size
    · have b1 : (97 : Int) ≤ (s[k].toNat : Int) := by have := (HA.out k hlt).1; omega
      have b2 : (s[k].toNat : Int) ≤ 122 := by have := (HA.out k hlt).2; omega
      go_wp2
      go_round
      case rel => exact ⟨k + 1, by omega, by go_num⟩
      case measure => simp [intOf]; omega
    · go_wp2
      go_ret
      exact ⟨rfl, rfl⟩

/-! ### Plain facts on a text of bytes -/
theorem first_diff (s : ByteArray) (h0 : 0 < s.size) : (∀ k (h : k < s.size), s[k] = s[0]) ∨ ∃ m, ∃ hm : m < s.size, (∀ k (h : k < m), s[k] = s[0]) ∧ s[m] ≠ s[0] := by
  have key : ∀ n, n ≤ s.size → (∀ k (h : k < s.size), k < n → s[k] = s[0]) ∨ ∃ m, ∃ hm : m < s.size, (∀ k (h : k < m), s[k] = s[0]) ∧ s[m] ≠ s[0] := by
    intro n
    induction n with
    | zero => intro _; exact .inl (fun k _ h => absurd h (by omega))
    | succ n ih =>
      intro hn
      rcases ih (by omega) with h | h
      · by_cases e : s[n] = s[0]
        · refine .inl (fun k hk hlt => ?_)
          by_cases hkn : k = n
          · subst hkn; exact e
          · exact h k hk (by omega)
        · exact .inr ⟨n, by omega, fun k hk => h k (by omega) hk, e⟩
      · exact .inr h
  rcases key s.size (Nat.le_refl _) with h | h
  · exact .inl (fun k hk => h k hk hk)
  · exact .inr h

theorem lab_back (s : ByteArray) (h0 : 0 < s.size) (hall : ∀ k (h : k < s.size), s[k] = s[0]) (h1 : 97 ≤ s[0].toNat) (h2 : s[0].toNat ≤ 122) :
    lab (26 * (s.size - 1) + (s[0].toNat - 97)) = s := by
  have hsz : (lab (26 * (s.size - 1) + (s[0].toNat - 97))).size = s.size := by rw [lab_size]; omega
  apply ByteArray.ext
  apply Array.ext
  · exact hsz
  · intro i hi1 hi2
    have hi2' : i < s.size := hi2
    have a := lab_at (26 * (s.size - 1) + (s[0].toNat - 97)) i hi1
    apply UInt8.toNat_inj.1
    have b : s[i].toNat = s[0].toNat := by rw [hall i hi2']
    exact a.trans ((by omega : 97 + (26 * (s.size - 1) + (s[0].toNat - 97)) % 26 = s[0].toNat).trans b.symm)

theorem label_back (s : ByteArray) (z : Int) (h0 : 0 < s.size) (hb : s.size ≤ 65536) (hall : ∀ k (h : k < s.size), s[k] = s[0]) (h1 : 97 ≤ s[0].toNat) (h2 : s[0].toNat ≤ 122) (hz : z = 26 * ((s.size : Int) - 1) + ((s[0].toNat : Int) - 97)) (w : World) :
    Calls Try.prog 12 #[.int .i64 z] w fun e w' => e = .returned (.string s) ∧ Grown w w' := by
  have H := label_int z (26 * (s.size - 1) + (s[0].toNat - 97)) (by omega) (by omega) w
  rw [lab_back s h0 hall h1 h2] at H
  exact H

end Go.Proofs.Qxb6604727a
