import Derived.Test.Qxb6604727aRows
import Derived.WalkKit
import Derived.ProofKit
import Derived.Laws.BytesArg
import Derived.Deep.OwnRows
import Derived.Deep.QuietTactic
import Derived.BigQuiet
import Derived.WalkLawsBesides
namespace Go.Proofs.Qxb6604727a
open Go.ChangeShapes Go.WideShapes Go.ChangeAt Go.RowKit

theorem Try.info5 : (Try.prog.info? 5).map (fun i => (i.zero, i.size, i.bytes)) = some (some (.int .u8 0), 1, 1) := by kernel_rfl

/-- The numbers of the label at place p. -/
def labNums (p : Nat) : List Int := List.replicate (p / 26 + 1) (97 + (p : Int) % 26)
def lab (p : Nat) : ByteArray := strOfNums (labNums p)

/-- The row of the label's bytes behind k rounds. -/
def labRow (p k : Nat) (j : Nat) : Value := if j < k then .int .u8 (97 + (p : Int) % 26) else .int .u8 0

theorem labRow_step (p k : Nat) (j : Nat) : (if j = k then .int .u8 (97 + (p : Int) % 26) else labRow p k j) = labRow p (k + 1) j := by
  unfold labRow
  by_cases h : j = k
  · rw [if_pos h, if_pos (by omega)]
  · rw [if_neg h]
    by_cases h2 : j < k
    · rw [if_pos h2, if_pos (by omega)]
    · rw [if_neg h2, if_neg (by omega)]

set_option maxHeartbeats 1000000 in
theorem label_any (p : Nat) (hp : p < 4000000) (w : World) :
    Calls Try.prog 12 #[.int .i64 (p : Int)] w fun e w' => e = .returned (.string (lab p)) ∧ Grown w w' := by
  have hmk : ∀ w : World, (Instr.makeSlice 30 (.int .i64 ((p : Int) / 26 + 1)) (.int .i64 ((p : Int) / 26 + 1))).run Try.prog w = .ok (.slice (some ⟨w.heap.size, 0, none⟩) (p / 26 + 1) (p / 26 + 1)) (w.alloc (.cells (madeCells #[.int .u8 0] (p / 26 + 1)) 5)) := fun w => by
    have h := run_make_row' (P := Try.prog) 30 5 (.int .u8 0) 1 Try.underlying30 Try.info5 rfl .i64 .i64 (p / 26 + 1) (by omega) (by omega) w
    rwa [show ((p / 26 + 1 : Nat) : Int) = (p : Int) / 26 + 1 by omega] at h
  go_enter Try.func12, Try.ntmps12
  go_wp2
  go_loopw [6] (fun vi wr => ∃ k : Nat, k ≤ p / 26 + 1 ∧ vi = .int .i64 k ∧ Hid (wr.rowIs w.heap.size 5 (p / 26 + 1) (labRow p k)) ∧ Hid (Grown w wr)) (fun vi _ => p / 26 + 1 - (intOf vi).toNat)
  case atStart => exact ⟨0, Nat.zero_le _, rfl, World.rowIs_made w (.int .u8 0) (p / 26 + 1) 5, (Grown.refl w).alloc _ _⟩
  case round =>
    obtain ⟨k, hk, rfl, hrw, hgr⟩ := hrel
    have hf1 : wr.frozen? ⟨w.heap.size, k, none⟩ = false := hrw.out.frozen _
    by_cases hlt : k < p / 26 + 1
    · have hc1 : wr.cell? ⟨w.heap.size, k, none⟩ = some (labRow p k k) := hrw.out.cell hlt
      go_wp2
      go_roundw
      case rel =>
        exact ⟨k + 1, by omega, by go_num, (hrw.out.set _ _).congr (fun j _ => labRow_step p k j), hgr.out.setCell (Nat.le_refl _) _⟩
      case measure => simp [intOf]; omega
    · have hk2 : k = p / 26 + 1 := by omega
      have g := run_convert_bytes_arg (P := Try.prog) wr 30 5 Try.underlying30 Try.underlying5 w.heap.size 0 (p / 26 + 1) (p / 26 + 1) (labNums p) (by simp [labNums]) (fun i hi => by
        rw [Nat.zero_add, hrw.out.cell hi]; simp [labNums, labRow, hk2, hi]) 9 Try.underlying9
      clear hk2
      go_wp2
      go_ret
      exact ⟨rfl, hgr.out⟩


theorem grown_trans {a b c : World} (h : Grown a b) (k : Grown b c) : Grown a c :=
  ⟨World.keptBut_trans h.1 k.1, fun x => (k.2.1 x).trans (h.2.1 x), Nat.le_trans h.2.2 k.2.2⟩

set_option maxHeartbeats 1000000 in
/-- listPlace at a text that is one byte repeated. -/
theorem listPlace_same (s : ByteArray) (h0 : 0 < s.size) (hb : s.size ≤ 200000) (hall : ∀ k (h : k < s.size), s[k] = s[0]) (w : World) :
    Calls Try.prog 20 #[.string s] w fun e w' => e = .returned (.int .i64 (26 * ((s.size : Int) - 1) + ((s[0].toNat : Int) - 97) % 256)) ∧ Grown w w' := by
  have HA : Hid (∀ k (h : k < s.size), s[k] = s[0]) := hall
  clear hall
  go_enter Try.func20, Try.ntmps20
  go_wp2
  go_loopw [3] (fun vi wr => ∃ k : Nat, 1 ≤ k ∧ k ≤ s.size ∧ vi = .int .i64 k ∧ Hid (Grown w wr)) (fun vi _ => s.size - (intOf vi).toNat)
  case atStart => exact ⟨1, by omega, by omega, rfl, Grown.refl w⟩
  case round =>
    obtain ⟨k, hk1, hk, rfl, hgr⟩ := hrel
    by_cases hlt : k < s.size
    · have e1 : ((s[k].toNat : Int) != (s[0].toNat : Int)) = false := by rw [HA.out k hlt]; simp
      go_wp2
      go_quiet (fail)
      go_wp2
      go_roundw
      case rel => exact ⟨k + 1, by omega, by omega, by go_num, hgr⟩
      case measure => simp [intOf]; omega
    · go_wp2
      go_ret
      exact ⟨rfl, hgr.out⟩

set_option maxHeartbeats 1000000 in
/-- listPlace at a text in which place m is the first that differs from the first byte. -/
theorem listPlace_diff (s : ByteArray) (m : Nat) (hm : m < s.size) (hb : s.size ≤ 200000) (hall : ∀ k (h : k < m), s[k] = s[0]) (hne : s[m] ≠ s[0]) (w : World) :
    Calls Try.prog 20 #[.string s] w fun e w' => e = .returned (.int .i64 (-1)) ∧ Grown w w' := by
  have h0 : 0 < s.size := by omega
  have hm1 : 1 ≤ m := by
    rcases Nat.eq_zero_or_pos m with h | h
    · subst h; exact absurd rfl hne
    · exact h
  have HA : Hid (∀ k (h : k < m), s[k] = s[0]) := hall
  have HN : Hid (s[m] ≠ s[0]) := hne
  clear hall hne
  go_enter Try.func20, Try.ntmps20
  go_wp2
  go_loopw [3] (fun vi wr => ∃ k : Nat, 1 ≤ k ∧ k ≤ m ∧ vi = .int .i64 k ∧ Hid (Grown w wr)) (fun vi _ => s.size - (intOf vi).toNat)
  case atStart => exact ⟨1, by omega, by omega, rfl, Grown.refl w⟩
  case round =>
    obtain ⟨k, hk1, hk, rfl, hgr⟩ := hrel
    have hlt : k < s.size := by omega
    by_cases hkm : k < m
    · have e1 : ((s[k].toNat : Int) != (s[0].toNat : Int)) = false := by rw [HA.out k hkm]; simp
      go_wp2
      go_quiet (fail)
      go_wp2
      go_roundw
      case rel => exact ⟨k + 1, by omega, by omega, by go_num, hgr⟩
      case measure => simp [intOf]; omega
    · have e1 : ((s[k].toNat : Int) != (s[0].toNat : Int)) = true := by
        obtain rfl : k = m := by omega
        have := HN.out
        simp only [bne_iff_ne, ne_eq]
        intro h
        exact this (UInt8.toNat_inj.1 (by omega))
      go_wp2
      go_quiet (fail)
      go_wp2
      go_ret
      exact ⟨rfl, hgr.out⟩

theorem zzListPlace_same (s : ByteArray) (h0 : 0 < s.size) (hb : s.size ≤ 200000) (hall : ∀ k (h : k < s.size), s[k] = s[0]) (w : World) :
    Calls Try.prog 11 #[.string s] w fun e w' => e = .returned (.int .i64 (26 * ((s.size : Int) - 1) + ((s[0].toNat : Int) - 97) % 256)) ∧ Grown w w' := by
  have H := listPlace_same s h0 hb hall
  clear hall
  have HH : Hid (∀ w : World, Calls Try.prog 20 #[.string s] w fun e w' => e = .returned (.int .i64 (26 * ((s.size : Int) - 1) + ((s[0].toNat : Int) - 97) % 256)) ∧ Grown w w') := H
  clear H
  go_enter Try.func11, Try.ntmps11
  go_wp2_with fail
  refine (HH.out _).mono ?_
  rintro e w' ⟨rfl, hg⟩
  go_wp2
  go_ret
  exact ⟨rfl, hg⟩

theorem zzListPlace_diff (s : ByteArray) (m : Nat) (hm : m < s.size) (hb : s.size ≤ 200000) (hall : ∀ k (h : k < m), s[k] = s[0]) (hne : s[m] ≠ s[0]) (w : World) :
    Calls Try.prog 11 #[.string s] w fun e w' => e = .returned (.int .i64 (-1)) ∧ Grown w w' := by
  have HH : Hid (∀ w : World, Calls Try.prog 20 #[.string s] w fun e w' => e = .returned (.int .i64 (-1)) ∧ Grown w w') := listPlace_diff s m hm hb hall hne
  clear hall hne
  go_enter Try.func11, Try.ntmps11
  go_wp2_with fail
  refine (HH.out _).mono ?_
  rintro e w' ⟨rfl, hg⟩
  go_wp2
  go_ret
  exact ⟨rfl, hg⟩

/-! ### The label, read as plain bytes -/
theorem lab_size (p : Nat) : (lab p).size = p / 26 + 1 := by unfold lab; rw [strOfNums_size]; simp [labNums]

theorem lab_at (p k : Nat) (h : k < (lab p).size) : (lab p)[k].toNat = 97 + p % 26 := by
  have h' : k < p / 26 + 1 := by rw [← lab_size]; exact h
  have e : (lab p)[k] = UInt8.ofNat (97 + (p : Int) % 26).toNat := by
    show (lab p).data[k] = _
    simp [lab, strOfNums, labNums]
  rw [e, UInt8.toNat_ofNat']
  omega

/-- listPlace at the label of place p gives p. -/
theorem zzListPlace_lab (p : Nat) (hp : p < 4000000) (w : World) :
    Calls Try.prog 11 #[.string (lab p)] w fun e w' => e = .returned (.int .i64 (p : Int)) ∧ Grown w w' := by
  have hs := lab_size p
  have h0 : 0 < (lab p).size := by omega
  have ha := lab_at p 0 h0
  have e : 26 * (((lab p).size : Int) - 1) + (((lab p)[0].toNat : Int) - 97) % 256 = (p : Int) := by rw [ha, hs]; omega
  have H := zzListPlace_same (lab p) h0 (by omega) (fun k h => UInt8.toNat_inj.1 (by rw [lab_at p k h, ha])) w
  rw [e] at H
  exact H

/-- The same two, the number said as the walk writes it. -/
theorem label_int (z : Int) (p : Nat) (hz : z = (p : Int)) (hp : p < 4000000) (w : World) :
    Calls Try.prog 12 #[.int .i64 z] w fun e w' => e = .returned (.string (lab p)) ∧ Grown w w' := by
  subst hz
  exact label_any p hp w

theorem zzListPlace_int (z : Int) (p : Nat) (hz : z = (p : Int)) (hp : p < 4000000) (w : World) :
    Calls Try.prog 11 #[.string (lab p)] w fun e w' => e = .returned (.int .i64 z) ∧ Grown w w' := by
  subst hz
  exact zzListPlace_lab p hp w

end Go.Proofs.Qxb6604727a
