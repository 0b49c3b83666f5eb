import Derived.Test.Qxb6604727aEncode
import Derived.Laws.BitsAllLaws
namespace Go.Proofs.Qxb6604727a
open Go.ChangeShapes Go.WideShapes Go.ChangeAt Go.RowKit

/-! ### Bits of an int32 that is not negative -/
theorem ofInt_i32 (a : Nat) (ha : a < 2147483648) : (BitVec.ofInt 32 (a : Int)).toNat = a := by
  rw [BitVec.ofInt_natCast, BitVec.toNat_ofNat]; exact Nat.mod_eq_of_lt (by omega)
theorem i32_or_nat (a b : Nat) (ha : a < 2147483648) (hb : b < 2147483648) : bits .or .i32 (a : Int) (b : Int) = ((a ||| b : Nat) : Int) := by
  have hx : a ||| b < 2 ^ 31 := Nat.or_lt_two_pow (by omega) (by omega)
  show IntKind.i32.wrap ((BitVec.ofInt 32 (a : Int) ||| BitVec.ofInt 32 (b : Int)).toNat : Int) = _
  rw [BitVec.toNat_or, ofInt_i32 a ha, ofInt_i32 b hb, IntKind.wrap_i32]
  omega
theorem i32_and_nat (a b : Nat) (ha : a < 2147483648) (hb : b < 2147483648) : bits .and .i32 (a : Int) (b : Int) = ((a &&& b : Nat) : Int) := by
  have hx : a &&& b < 2 ^ 31 := Nat.and_lt_two_pow _ (by omega)
  show IntKind.i32.wrap ((BitVec.ofInt 32 (a : Int) &&& BitVec.ofInt 32 (b : Int)).toNat : Int) = _
  rw [BitVec.toNat_and, ofInt_i32 a ha, ofInt_i32 b hb, IntKind.wrap_i32]
  omega

theorem or224 : ∀ n : Nat, n < 16 → 224 ||| n = 224 + n := by decide
theorem or128 : ∀ n : Nat, n < 64 → 128 ||| n = 128 + n := by decide

/-- The three bytes of a character of three bytes, as plain numbers. -/
theorem three_bytes (r : Int) (h1 : 0 ≤ r) (h2 : r < 65536) :
    bits BinOp.or .i32 224 (r / 4096) % 256 = 224 + r / 4096 ∧ bits BinOp.or .i32 128 (bits BinOp.and .i32 (r / 64) 63) % 256 = 128 + r / 64 % 64 ∧ bits BinOp.or .i32 128 (bits BinOp.and .i32 r 63) % 256 = 128 + r % 64 := by
  obtain ⟨n, rfl⟩ := Int.eq_ofNat_of_zero_le h1
  have hn : n < 65536 := by omega
  have e1 : bits BinOp.or .i32 224 ((n : Int) / 4096) = 224 + (n : Int) / 4096 := by
    have h := i32_or_nat 224 (n / 4096) (by omega) (by omega)
    rw [or224 _ (by omega)] at h
    exact h.trans (by omega)
  have e2 : ∀ m : Nat, m < 65536 → bits BinOp.or .i32 128 (bits BinOp.and .i32 (m : Int) 63) = 128 + (m : Int) % 64 := by
    intro m hm
    have h := i32_and_nat m 63 (by omega) (by omega)
    rw [nat_mask6] at h
    have h' : bits BinOp.and .i32 (m : Int) 63 = ((m % 64 : Nat) : Int) := h
    rw [h']
    have k := i32_or_nat 128 (m % 64) (by omega) (by omega)
    rw [or128 _ (by omega)] at k
    exact k.trans (by omega)
  have e3 := e2 (n / 64) (by omega)
  have e4 := e2 n (by omega)
  rw [show ((n / 64 : Nat) : Int) = (n : Int) / 64 by omega] at e3
  rw [e1, e3, e4]
  omega

theorem toList_nums (xs : List Int) : (strOfNums xs).toList = xs.map fun n => UInt8.ofNat n.toNat := by
  rw [ByteArray.toList_eq, strOfNums_data]

theorem ne_byte (x : Int) (m : Nat) (hm : m < 256) (h0 : 0 ≤ x) (h1 : x < 256) (hne : x ≠ m) : UInt8.ofNat x.toNat ≠ UInt8.ofNat m := by
  intro h
  have := congrArg UInt8.toNat h
  rw [UInt8.toNat_ofNat', UInt8.toNat_ofNat'] at this
  omega

theorem not_zh (r : Int) (h1 : 0 ≤ r) (h2 : r < 65536) (hne : r ≠ 12290) : ((strOfNums [224 + r / 4096, 128 + r / 64 % 64, 128 + r % 64]).toList == [227, 128, 130]) = false := by
  rw [toList_nums]
  simp only [List.map_cons, List.map_nil, beq_eq_false_iff_ne, ne_eq, List.cons.injEq, and_true, not_and]
  intro a b c
  by_cases k1 : 224 + r / 4096 = 227
  · by_cases k2 : 128 + r / 64 % 64 = 128
    · exact ne_byte (128 + r % 64) 130 (by omega) (by omega) (by omega) (by omega) c
    · exact ne_byte (128 + r / 64 % 64) 128 (by omega) (by omega) (by omega) (by omega) b
  · exact ne_byte (224 + r / 4096) 227 (by omega) (by omega) (by omega) (by omega) a

theorem not_dot (xs : List Int) (h : xs.length ≠ 1) : ((strOfNums xs).toList == [46]) = false := by
  rw [toList_nums]
  simp only [beq_eq_false_iff_ne, ne_eq]
  intro k
  exact h (by have := congrArg List.length k; simpa using this)

theorem not_zh_len (xs : List Int) (h : xs.length ≠ 3) : ((strOfNums xs).toList == [227, 128, 130]) = false := by
  rw [toList_nums]
  simp only [beq_eq_false_iff_ne, ne_eq]
  intro k
  exact h (by have := congrArg List.length k; simpa using this)

theorem not_dot_one (r : Int) (h1 : 0 ≤ r) (h2 : r < 128) (hne : r ≠ 46) : ((strOfNums [r]).toList == [46]) = false := by
  rw [toList_nums]
  simp only [List.map_cons, List.map_nil, beq_eq_false_iff_ne, ne_eq, List.cons.injEq, and_true]
  exact ne_byte r 46 (by omega) (by omega) (by omega) hne

/-! ### zzEncode, by what its text is compared with -/
theorem enc_dot (w : World) :
    Calls Try.prog 18 #[.int .i32 46] w fun e w' => (∃ s : ByteArray, e = .returned (.string s) ∧ (s.toList == [46]) = true) ∧ Grown w w' := by
  refine (enc1 46 (by omega) (by omega) w).mono ?_
  rintro e w' ⟨rfl, hg⟩
  exact ⟨⟨_, rfl, by rw [toList_nums]; decide⟩, hg⟩

theorem enc_zh (w : World) :
    Calls Try.prog 18 #[.int .i32 12290] w fun e w' => (∃ s : ByteArray, e = .returned (.string s) ∧ (s.toList == [46]) = false ∧ (s.toList == [227, 128, 130]) = true) ∧ Grown w w' := by
  refine (enc3 12290 (by omega) (by omega) (by omega) w).mono ?_
  rintro e w' ⟨rfl, hg⟩
  obtain ⟨b1, b2, b3⟩ := three_bytes 12290 (by omega) (by omega)
  refine ⟨⟨_, rfl, not_dot _ (by simp), ?_⟩, hg⟩
  rw [b1, b2, b3, toList_nums]
  decide

theorem enc_no (r : Int) (hd : r ≠ 46) (hz : r ≠ 12290) (w : World) :
    Calls Try.prog 18 #[.int .i32 r] w fun e w' => (∃ s : ByteArray, e = .returned (.string s) ∧ (s.toList == [46]) = false ∧ (s.toList == [227, 128, 130]) = false) ∧ Grown w w' := by
  by_cases hb : r < 0 ∨ 1114111 < r ∨ (55296 ≤ r ∧ r ≤ 57343)
  · refine (encBad r hb w).mono ?_
    rintro e w' ⟨rfl, hg⟩
    exact ⟨⟨_, rfl, not_dot _ (by simp), by rw [toList_nums]; decide⟩, hg⟩
  · by_cases h1 : r < 128
    · refine (enc1 r (by omega) h1 w).mono ?_
      rintro e w' ⟨rfl, hg⟩
      exact ⟨⟨_, rfl, not_dot_one r (by omega) h1 hd, not_zh_len _ (by simp)⟩, hg⟩
    · by_cases h2 : r < 2048
      · refine (enc2 r (by omega) h2 w).mono ?_
        rintro e w' ⟨⟨x, y, rfl⟩, hg⟩
        exact ⟨⟨_, rfl, not_dot _ (by simp), not_zh_len _ (by simp)⟩, hg⟩
      · by_cases h3 : r < 65536
        · refine (enc3 r (by omega) h3 (by omega) w).mono ?_
          rintro e w' ⟨rfl, hg⟩
          obtain ⟨b1, b2, b3⟩ := three_bytes r (by omega) h3
          refine ⟨⟨_, rfl, not_dot _ (by simp), ?_⟩, hg⟩
          rw [b1, b2, b3]
          exact not_zh r (by omega) h3 hz
        · refine (enc4 r (by omega) (by omega) w).mono ?_
          rintro e w' ⟨⟨x, y, z, u, rfl⟩, hg⟩
          exact ⟨⟨_, rfl, not_dot _ (by simp), not_zh_len _ (by simp)⟩, hg⟩

end Go.Proofs.Qxb6604727a
