import Derived.Test.Qxb6002904aLab
namespace Go.Proofs.Qxb6002904a
open Go.ChangeShapes Go.WideShapes Go.ChangeAt Go.RowKit

theorem kept {p : Prop} (h : p) : Hid p := h

/-! ### The same on 32 bits -/
theorem ofInt_bv (a : BitVec 32) : BitVec.ofInt 32 (a.toNat : Int) = a := by
  apply BitVec.eq_of_toNat_eq
  rw [BitVec.ofInt_natCast, BitVec.toNat_ofNat]
  exact Nat.mod_eq_of_lt a.isLt

theorem wrap_bv (a : BitVec 32) : IntKind.u32.wrap (a.toNat : Int) = (a.toNat : Int) := by
  have := a.isLt
  rw [IntKind.wrap_u32']
  omega

theorem or_bv (a b : BitVec 32) : bits .or .u32 (a.toNat : Int) (b.toNat : Int) = ((a ||| b).toNat : Int) := by
  show IntKind.u32.wrap ((BitVec.ofInt 32 (a.toNat : Int) ||| BitVec.ofInt 32 (b.toNat : Int)).toNat : Int) = _
  rw [ofInt_bv, ofInt_bv, wrap_bv]
theorem and_bv (a b : BitVec 32) : bits .and .u32 (a.toNat : Int) (b.toNat : Int) = ((a &&& b).toNat : Int) := by
  show IntKind.u32.wrap ((BitVec.ofInt 32 (a.toNat : Int) &&& BitVec.ofInt 32 (b.toNat : Int)).toNat : Int) = _
  rw [ofInt_bv, ofInt_bv, wrap_bv]
theorem andNot_bv (a b : BitVec 32) : bits .andNot .u32 (a.toNat : Int) (b.toNat : Int) = ((a &&& ~~~b).toNat : Int) := by
  show IntKind.u32.wrap ((BitVec.ofInt 32 (a.toNat : Int) &&& ~~~ BitVec.ofInt 32 (b.toNat : Int)).toNat : Int) = _
  rw [ofInt_bv, ofInt_bv, wrap_bv]

theorem bne_bv (a : BitVec 32) : (((a.toNat : Int) != 0) = true) ↔ a ≠ 0#32 := by
  simp only [bne_iff_ne, ne_eq]
  constructor
  · intro h k; apply h; rw [k]; rfl
  · intro h k; apply h; apply BitVec.eq_of_toNat_eq; simp; omega

def stV (m g v : BitVec 32) : BitVec 32 := if m &&& g = 0#32 then m else (m &&& ~~~g) ||| v
def mapV (rd wr ex al m : BitVec 32) : BitVec 32 := stV (stV (stV (stV m 0x80000000#32 rd) 0x40000000#32 wr) 0x20000000#32 ex) 0x10000000#32 al
def cutV (mask bit a v : BitVec 32) : BitVec 32 := if mask &&& bit = 0#32 then a else a &&& ~~~v
def labV (mask r w x : BitVec 32) : BitVec 32 := cutV mask 4#32 (cutV mask 2#32 (cutV mask 1#32 (r ||| x) w) r) x

theorem st_bv (m g v : BitVec 32) : st (m.toNat : Int) (g.toNat : Int) (v.toNat : Int) = ((stV m g v).toNat : Int) := by
  unfold st stV
  rw [and_bv]
  by_cases h : m &&& g = 0#32
  · rw [if_pos h, if_neg (by rw [bne_bv]; exact fun k => k h)]
  · rw [if_neg h, if_pos ((bne_bv _).2 h), andNot_bv, or_bv]

theorem cut_bv (mask bit a v : BitVec 32) : cut (mask.toNat : Int) (bit.toNat : Int) (a.toNat : Int) (v.toNat : Int) = ((cutV mask bit a v).toNat : Int) := by
  unfold cut cutV
  rw [and_bv]
  by_cases h : mask &&& bit = 0#32
  · rw [if_pos h, if_neg (by rw [bne_bv]; exact fun k => k h)]
  · rw [if_neg h, if_pos ((bne_bv _).2 h), andNot_bv]

theorem map_bv (rd wr ex al m : BitVec 32) : mapF (rd.toNat : Int) (wr.toNat : Int) (ex.toNat : Int) (al.toNat : Int) (m.toNat : Int) = ((mapV rd wr ex al m).toNat : Int) := by
  unfold mapF mapV
  have h1 := st_bv m 0x80000000#32 rd
  have h2 := st_bv (stV m 0x80000000#32 rd) 0x40000000#32 wr
  have h3 := st_bv (stV (stV m 0x80000000#32 rd) 0x40000000#32 wr) 0x20000000#32 ex
  have h4 := st_bv (stV (stV (stV m 0x80000000#32 rd) 0x40000000#32 wr) 0x20000000#32 ex) 0x10000000#32 al
  rw [← h4, ← h3, ← h2, ← h1]
  rfl

theorem lab_bv (mask r w x : BitVec 32) : labF (mask.toNat : Int) (r.toNat : Int) (w.toNat : Int) (x.toNat : Int) = ((labV mask r w x).toNat : Int) := by
  unfold labF labV
  have h1 := cut_bv mask 1#32 (r ||| x) w
  have h2 := cut_bv mask 2#32 (cutV mask 1#32 (r ||| x) w) r
  have h3 := cut_bv mask 4#32 (cutV mask 2#32 (cutV mask 1#32 (r ||| x) w) r) x
  rw [or_bv, ← h3, ← h2, ← h1]
  rfl

/-! ### The plain law -/
theorem and_zero_mono {a b c : BitVec 32} (h : (a ||| b) &&& c = 0#32) : a &&& c = 0#32 := by
  apply BitVec.eq_of_getLsbD_eq
  intro i hi
  have := congrArg (fun v : BitVec 32 => v.getLsbD i) h
  simp at this ⊢
  intro ha
  exact this (.inl ha)

theorem cut_le (mask bit a v : BitVec 32) : cutV mask bit a v &&& ~~~ a = 0#32 := by
  unfold cutV
  apply BitVec.eq_of_getLsbD_eq
  intro i hi
  by_cases h : mask &&& bit = 0#32
  · rw [if_pos h]; simp
  · rw [if_neg h]; simp; intros; assumption

/-- Withholding more leaves less, at one step. -/
theorem cut_mono (mask extra bit a b v : BitVec 32) (h : a &&& ~~~ b = 0#32) : cutV (mask ||| extra) bit a v &&& ~~~ cutV mask bit b v = 0#32 := by
  unfold cutV
  have hb : ∀ i, i < 32 → a.getLsbD i = true → b.getLsbD i = true := by
    intro i hi ha
    have := congrArg (fun v : BitVec 32 => v.getLsbD i) h
    simp [hi] at this
    exact this ha
  by_cases k : (mask ||| extra) &&& bit = 0#32
  · rw [if_pos k, if_pos (and_zero_mono k)]; exact h
  · rw [if_neg k]
    by_cases k2 : mask &&& bit = 0#32
    · rw [if_pos k2]
      apply BitVec.eq_of_getLsbD_eq
      intro i hi
      have := hb i hi
      simp [hi]
      intro a1 _
      exact this a1
    · rw [if_neg k2]
      apply BitVec.eq_of_getLsbD_eq
      intro i hi
      have := hb i hi
      simp [hi]
      intro a1 a2
      exact ⟨this a1, a2⟩

theorem and_not_trans {a b c : BitVec 32} (h1 : a &&& ~~~ b = 0#32) (h2 : b &&& ~~~ c = 0#32) : a &&& ~~~ c = 0#32 := by
  apply BitVec.eq_of_getLsbD_eq
  intro i hi
  have k1 := congrArg (fun v : BitVec 32 => v.getLsbD i) h1
  have k2 := congrArg (fun v : BitVec 32 => v.getLsbD i) h2
  simp [hi] at k1 k2 ⊢
  exact fun a1 => k2 (k1 a1)

theorem self_not (a : BitVec 32) : a &&& ~~~ a = 0#32 := by
  apply BitVec.eq_of_getLsbD_eq
  intro i hi
  simp

theorem rx_dom (r w x : BitVec 32) : (r ||| x) &&& ~~~ (r ||| w ||| x) = 0#32 := by
  apply BitVec.eq_of_getLsbD_eq
  intro i hi
  simp [hi]
  intro h a1 _
  rcases h with k | k
  · rw [k] at a1; cases a1
  · exact k

theorem more_less (mask extra r w x : BitVec 32) : labV (mask ||| extra) r w x &&& ~~~ labV mask r w x = 0#32 := by
  unfold labV
  exact cut_mono _ _ _ _ _ _ (cut_mono _ _ _ _ _ _ (cut_mono _ _ _ _ _ _ (self_not _)))

theorem less_dom (mask r w x : BitVec 32) : labV mask r w x &&& ~~~ (r ||| w ||| x) = 0#32 := by
  unfold labV
  exact and_not_trans (cut_le _ _ _ _) (and_not_trans (cut_le _ _ _ _) (and_not_trans (cut_le _ _ _ _) (rx_dom r w x)))

/-- A value without a generic bit is mapped no further. -/
theorem no_bit {v : BitVec 32} (g : BitVec 32) (hg : ∀ i, i < 32 → g.getLsbD i = true → (0xF0000000#32).getLsbD i = true) (h : v &&& 0xF0000000#32 = 0#32) : v &&& g = 0#32 := by
  apply BitVec.eq_of_getLsbD_eq
  intro i hi
  have k := congrArg (fun v : BitVec 32 => v.getLsbD i) h
  have l := hg i hi
  rw [BitVec.getLsbD_and, BitVec.getLsbD_zero] at k ⊢
  cases hv : v.getLsbD i
  · simp
  · rw [hv] at k
    cases hgi : g.getLsbD i
    · simp
    · rw [l hgi] at k; cases k

theorem st_skip {m g v : BitVec 32} (h : m &&& g = 0#32) : stV m g v = m := if_pos h
theorem st_self (g v : BitVec 32) (hg : g ≠ 0#32) : stV g g v = v := by
  unfold stV
  rw [if_neg (by rw [BitVec.and_self]; exact hg), self_not, BitVec.zero_or]

theorem map_read (rd wr ex al : BitVec 32) (h : rd &&& 0xF0000000#32 = 0#32) : mapV rd wr ex al 0x80000000#32 = rd := by
  unfold mapV
  rw [st_self _ _ (by decide), st_skip (no_bit 0x40000000#32 (by decide) h), st_skip (no_bit 0x20000000#32 (by decide) h), st_skip (no_bit 0x10000000#32 (by decide) h)]

theorem map_write (rd wr ex al : BitVec 32) (h : wr &&& 0xF0000000#32 = 0#32) : mapV rd wr ex al 0x40000000#32 = wr := by
  unfold mapV
  rw [st_skip (show 0x40000000#32 &&& 0x80000000#32 = 0#32 by decide), st_self _ _ (by decide), st_skip (no_bit 0x20000000#32 (by decide) h), st_skip (no_bit 0x10000000#32 (by decide) h)]

theorem map_execute (rd wr ex al : BitVec 32) (h : ex &&& 0xF0000000#32 = 0#32) : mapV rd wr ex al 0x20000000#32 = ex := by
  unfold mapV
  rw [st_skip (show 0x20000000#32 &&& 0x80000000#32 = 0#32 by decide), st_skip (show 0x20000000#32 &&& 0x40000000#32 = 0#32 by decide), st_self _ _ (by decide), st_skip (no_bit 0x10000000#32 (by decide) h)]

theorem or_zero {a b c g : BitVec 32} (h : (a ||| b ||| c) &&& g = 0#32) : a &&& g = 0#32 ∧ b &&& g = 0#32 ∧ c &&& g = 0#32 := by
  have h1 := and_zero_mono h
  have h2 := and_zero_mono h1
  rw [BitVec.or_comm a b] at h1
  rw [BitVec.or_comm (a ||| b) c] at h
  exact ⟨h2, and_zero_mono h1, and_zero_mono h⟩

/-- A uint32 is the number of 32 bits. -/
theorem bv_of (a : Int) (h0 : 0 ≤ a) (h1 : a ≤ 4294967295) : ∃ b : BitVec 32, a = (b.toNat : Int) := by
  refine ⟨BitVec.ofNat 32 a.toNat, ?_⟩
  rw [BitVec.toNat_ofNat, Nat.mod_eq_of_lt (by omega)]
  omega

/-- THE PLAIN LAW, in the walk's own words. -/
theorem law (mask extra rd wr ex al : Int) (m0 : 0 ≤ mask) (m1 : mask ≤ 4294967295) (x0 : 0 ≤ extra) (x1 : extra ≤ 4294967295) (r0 : 0 ≤ rd) (r1 : rd ≤ 4294967295) (w0 : 0 ≤ wr) (w1 : wr ≤ 4294967295)
    (e0 : 0 ≤ ex) (e1 : ex ≤ 4294967295) (a0 : 0 ≤ al) (a1 : al ≤ 4294967295) (r wv x : Int) (hr : r = mapF rd wr ex al 2147483648) (hw : wv = mapF rd wr ex al 1073741824) (hx : x = mapF rd wr ex al 536870912) :
    ((bits .and .u32 (bits .or .u32 (bits .or .u32 rd wr) ex) 4026531840 == 0) = true → r = rd ∧ wv = wr ∧ x = ex) ∧
    (bits .andNot .u32 (labF (bits .or .u32 mask extra) r wv x) (labF mask r wv x) == 0) = true ∧
    (bits .andNot .u32 (labF mask r wv x) (bits .or .u32 (bits .or .u32 r wv) x) == 0) = true := by
  obtain ⟨M, rfl⟩ := bv_of mask m0 m1
  obtain ⟨X, rfl⟩ := bv_of extra x0 x1
  obtain ⟨RD, rfl⟩ := bv_of rd r0 r1
  obtain ⟨WR, rfl⟩ := bv_of wr w0 w1
  obtain ⟨EX, rfl⟩ := bv_of ex e0 e1
  obtain ⟨AL, rfl⟩ := bv_of al a0 a1
  have k1 : mapF (RD.toNat : Int) (WR.toNat : Int) (EX.toNat : Int) (AL.toNat : Int) 2147483648 = ((mapV RD WR EX AL 0x80000000#32).toNat : Int) := map_bv RD WR EX AL 0x80000000#32
  have k2 : mapF (RD.toNat : Int) (WR.toNat : Int) (EX.toNat : Int) (AL.toNat : Int) 1073741824 = ((mapV RD WR EX AL 0x40000000#32).toNat : Int) := map_bv RD WR EX AL 0x40000000#32
  have k3 : mapF (RD.toNat : Int) (WR.toNat : Int) (EX.toNat : Int) (AL.toNat : Int) 536870912 = ((mapV RD WR EX AL 0x20000000#32).toNat : Int) := map_bv RD WR EX AL 0x20000000#32
  subst hr hw hx
  rw [k1, k2, k3]
  refine ⟨fun h => ?_, ?_, ?_⟩
  · have h' : bits .and .u32 (bits .or .u32 (bits .or .u32 (RD.toNat : Int) (WR.toNat : Int)) (EX.toNat : Int)) ((0xF0000000#32).toNat : Int) = 0 := by simpa using h
    rw [or_bv, or_bv, and_bv] at h'
    have h2 : (RD ||| WR ||| EX) &&& 0xF0000000#32 = 0#32 := by
      apply BitVec.eq_of_toNat_eq
      simp only [BitVec.toNat_ofNat]
      omega
    obtain ⟨z1, z2, z3⟩ := or_zero h2
    rw [map_read _ _ _ _ z1, map_write _ _ _ _ z2, map_execute _ _ _ _ z3]
    exact ⟨rfl, rfl, rfl⟩
  · rw [or_bv, lab_bv, lab_bv, andNot_bv, more_less]
    rfl
  · rw [or_bv, or_bv, lab_bv, andNot_bv, less_dom]
    rfl

end Go.Proofs.Qxb6002904a
