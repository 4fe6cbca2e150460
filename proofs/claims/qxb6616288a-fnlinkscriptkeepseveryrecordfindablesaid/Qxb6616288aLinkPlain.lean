import Derived.Lib.EndianBits
import Derived.Laws.BitsAllLaws
/-! PLAIN FACTS FOR THE LINK SCRIPT: numbers, bits, bytes, and probing in a ring of n slots. No Go text is walked here. -/
namespace Go.Proofs.Qxb6616288a.Lnk

/-- The slot of a record: bit 63, the fingerprint, the offset. -/
def want (fp o : Int) : Int := 9223372036854775808 + fp * 4294967296 + o

theorem want_bd (fp o : Int) (h1 : 0 ≤ fp) (h2 : fp ≤ 1073741823) (h3 : 0 ≤ o) (h4 : o ≤ 4294967295) : 9223372036854775808 ≤ want fp o ∧ want fp o < 13835058055282163712 := by
  unfold want; omega

theorem or_hi (fp : Int) (h1 : 0 ≤ fp) (h2 : fp ≤ 1073741823) : bits .or .u64 9223372036854775808 (fp * 4294967296) = 9223372036854775808 + fp * 4294967296 := by
  rw [u64_or _ _ (by omega) (by omega) (by omega) (by omega)]
  have e := Nat.two_pow_add_eq_or_of_lt (b := (fp * 4294967296).toNat) (i := 63) (by omega) 1
  have e2 : (9223372036854775808 : Int).toNat = 2 ^ 63 * 1 := by decide
  rw [e2, ← e]
  omega

theorem or_lo (x o : Int) (h1 : 0 ≤ x) (h2 : x < 18446744073709551616) (h3 : 0 ≤ o) (h4 : o ≤ 4294967295) (h5 : x % 4294967296 = 0) : bits .or .u64 x o = x + o := by
  rw [u64_or _ _ (by omega) (by omega) (by omega) (by omega)]
  have e := Nat.two_pow_add_eq_or_of_lt (b := o.toNat) (i := 32) (by omega) (x.toNat / 4294967296)
  have e2 : x.toNat = 2 ^ 32 * (x.toNat / 4294967296) := by omega
  rw [e2, ← e]
  omega

theorem and_lo (o : Int) (h3 : 0 ≤ o) (h4 : o ≤ 4294967295) : bits .and .u64 o 4294967295 = o := by
  rw [u64_and _ _ (by omega) (by omega) (by omega) (by omega)]
  have e := Nat.and_two_pow_sub_one_eq_mod o.toNat 32
  have e2 : (4294967295 : Int).toNat = 2 ^ 32 - 1 := by decide
  rw [e2, e]
  omega

theorem or_byte (x b : Int) (h1 : 0 ≤ x) (h2 : x < 72057594037927936) (h3 : 0 ≤ b) (h4 : b ≤ 255) : bits .or .u64 (x * 256) b = x * 256 + b := by
  rw [u64_or _ _ (by omega) (by omega) (by omega) (by omega)]
  have e := Nat.two_pow_add_eq_or_of_lt (b := b.toNat) (i := 8) (by omega) x.toNat
  have e2 : (x * 256).toNat = 2 ^ 8 * x.toNat := by omega
  rw [e2, ← e]
  omega

theorem mark_bit (i : Nat) : (18446744073709551615 - 4611686018427387904 : Nat).testBit i = (decide (i < 64) && !decide (i = 62)) := by
  by_cases h : i < 64
  · have : ∀ j : Fin 64, (18446744073709551615 - 4611686018427387904 : Nat).testBit j.1 = (decide (j.1 < 64) && !decide (j.1 = 62)) := by decide
    exact this ⟨i, h⟩
  · rw [Nat.testBit_lt_two_pow (Nat.lt_of_lt_of_le (by decide : (18446744073709551615 - 4611686018427387904 : Nat) < 2 ^ 64) (Nat.pow_le_pow_right (by decide) (by omega)))]
    simp [h]

/-- '&^ slotMarked' leaves a number whose bit 62 is clear. -/
theorem unmark (v : Int) (h : v = 0 ∨ (9223372036854775808 ≤ v ∧ v < 13835058055282163712)) : bits .andNot .u64 v 4611686018427387904 = v := by
  rw [u64_andNot _ _ (by omega) (by omega) (by omega) (by omega)]
  have e3 : (4611686018427387904 : Int).toNat = 4611686018427387904 := by decide
  rw [e3]
  have hv : v.toNat &&& (18446744073709551615 - 4611686018427387904) = v.toNat := by
    apply Nat.eq_of_testBit_eq
    intro i
    rw [Nat.testBit_and, mark_bit]
    by_cases hi : i < 64
    · by_cases h62 : i = 62
      · subst h62
        have hb : v.toNat.testBit 62 = false := by
          rw [Nat.testBit_eq_decide_div_mod_eq]
          have : v.toNat / 2 ^ 62 % 2 = 0 := by omega
          simp [this]
        simp [hb]
      · simp [hi, h62]
    · rw [Nat.testBit_lt_two_pow (Nat.lt_of_lt_of_le (by omega : v.toNat < 2 ^ 64) (Nat.pow_le_pow_right (by decide) (by omega)))]
      simp
  rw [hv]
  omega

/-- Byte j of v. -/
def byteOf (v : Int) (j : Nat) : Int := v / 256 ^ j % 256
theorem byteOf_bd (v : Int) (j : Nat) : 0 ≤ byteOf v j ∧ byteOf v j ≤ 255 := by unfold byteOf; omega
theorem byteOf_zero (j : Nat) : byteOf 0 j = 0 := by simp [byteOf]

/-- What zzSlot has gathered behind m rounds: the m highest bytes. -/
def hiOf (v : Int) (m : Nat) : Int := v / 256 ^ (8 - m)
theorem hiOf_zero (v : Int) (h1 : 0 ≤ v) (h2 : v < 18446744073709551616) : hiOf v 0 = 0 := by unfold hiOf; omega
theorem hiOf_eight (v : Int) : hiOf v 8 = v := by unfold hiOf; simp
theorem hiOf_succ (v : Int) (m : Nat) (hm : m < 8) : hiOf v (m + 1) = hiOf v m * 256 + byteOf v (7 - m) := by
  unfold hiOf byteOf
  obtain ⟨q, hq⟩ : ∃ q, 8 - m = q + 1 := ⟨7 - m, by omega⟩
  have e1 : 8 - (m + 1) = q := by omega
  have e2 : 7 - m = q := by omega
  rw [e1, e2, hq, Int.pow_succ, ← Int.ediv_ediv_of_nonneg (Int.pow_nonneg (by omega))]
  omega
theorem hiOf_bd (v : Int) (m : Nat) (hm : m < 8) (h1 : 0 ≤ v) (h2 : v < 18446744073709551616) : 0 ≤ hiOf v m ∧ hiOf v m < 72057594037927936 := by
  have hc : m = 0 ∨ m = 1 ∨ m = 2 ∨ m = 3 ∨ m = 4 ∨ m = 5 ∨ m = 6 ∨ m = 7 := by omega
  unfold hiOf
  rcases hc with rfl | rfl | rfl | rfl | rfl | rfl | rfl | rfl <;> simp <;> omega

theorem bytes_sum (v : Int) (h1 : 0 ≤ v) (h2 : v < 18446744073709551616) :
    byteOf v 0 + byteOf v 1 * 256 + byteOf v 2 * 65536 + byteOf v 3 * 16777216 + byteOf v 4 * 4294967296 + byteOf v 5 * 1099511627776 + byteOf v 6 * 281474976710656 + byteOf v 7 * 72057594037927936 = v := by
  unfold byteOf; simp; omega

end Go.Proofs.Qxb6616288a.Lnk
