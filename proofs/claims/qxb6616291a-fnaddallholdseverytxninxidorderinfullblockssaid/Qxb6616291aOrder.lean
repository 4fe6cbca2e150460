import Derived.Lib.Bytealg
/-! PLAIN LAW: the byte order of strings, the key of a string, and what sorted permutations share. No Go here. -/
namespace Go.Proofs.Qxb6616291a.Ord
open Go.Lib (compareBytes)

theorem cmp_self : ∀ a : List UInt8, compareBytes a a = 0
  | [] => rfl
  | a :: l => by
    unfold compareBytes
    rw [if_neg (UInt8.lt_irrefl a), if_neg (UInt8.lt_irrefl a)]
    exact cmp_self l
theorem cmp_zero : ∀ a b : List UInt8, compareBytes a b = 0 → a = b
  | [], [], _ => rfl
  | [], _ :: _, h => by simp [compareBytes] at h
  | _ :: _, [], h => by simp [compareBytes] at h
  | a :: l, b :: m, h => by
    unfold compareBytes at h
    by_cases h1 : a < b
    · rw [if_pos h1] at h; omega
    · rw [if_neg h1] at h
      by_cases h2 : b < a
      · rw [if_pos h2] at h; omega
      · rw [if_neg h2] at h
        have e : a = b := UInt8.le_antisymm (UInt8.not_lt.1 h2) (UInt8.not_lt.1 h1)
        rw [e, cmp_zero l m h]
theorem cmp_neg : ∀ a b : List UInt8, compareBytes b a = - compareBytes a b
  | [], [] => rfl
  | [], _ :: _ => rfl
  | _ :: _, [] => rfl
  | a :: l, b :: m => by
    unfold compareBytes
    by_cases h1 : a < b
    · rw [if_pos h1, if_neg (UInt8.lt_asymm h1), if_pos h1]; rfl
    · by_cases h2 : b < a
      · simp [h1, h2]
      · rw [if_neg h1, if_neg h2, if_neg h2, if_neg h1]
        exact cmp_neg l m

/-- a comes no later than b. -/
def le (a b : List UInt8) : Prop := compareBytes a b ≤ 0
theorem le_refl (a : List UInt8) : le a a := by unfold le; rw [cmp_self]; omega
theorem le_total (a b : List UInt8) : le a b ∨ le b a := by
  unfold le; rw [cmp_neg a b]; omega
theorem le_antisymm (a b : List UInt8) (h1 : le a b) (h2 : le b a) : a = b := by
  unfold le at h1 h2; rw [cmp_neg a b] at h2; exact cmp_zero a b (by omega)
theorem le_trans : ∀ a b c : List UInt8, le a b → le b c → le a c
  | [], _, [], _, _ => by unfold le; simp [compareBytes]
  | [], _, _ :: _, _, _ => by unfold le; simp [compareBytes]
  | _ :: _, [], _, h, _ => by unfold le at h; simp [compareBytes] at h
  | _ :: _, _ :: _, [], _, h => by unfold le at h; simp [compareBytes] at h
  | a :: l, b :: m, c :: n, h1, h2 => by
    unfold le at h1 h2 ⊢
    unfold compareBytes at h1 h2 ⊢
    by_cases ac : a < c
    · rw [if_pos ac]; omega
    · by_cases ab : b < a
      · rw [if_neg (UInt8.lt_asymm ab), if_pos ab] at h1; omega
      · by_cases bc : c < b
        · rw [if_neg (UInt8.lt_asymm bc), if_pos bc] at h2; omega
        · by_cases ab' : a < b
          · exact absurd (UInt8.lt_of_lt_of_le ab' (UInt8.not_lt.1 bc)) ac
          · have e1 : a = b := UInt8.le_antisymm (UInt8.not_lt.1 ab) (UInt8.not_lt.1 ab')
            subst e1
            have e2 : a = c := UInt8.le_antisymm (UInt8.not_lt.1 bc) (UInt8.not_lt.1 ac)
            subst e2
            rw [if_neg ab, if_neg ab] at h1 h2 ⊢
            exact le_trans l m n h1 h2

/-- The first k bytes as a number, the greatest first; missing ones are nought. -/
def keyN : Nat → List UInt8 → Int
  | 0, _ => 0
  | _ + 1, [] => 0
  | k + 1, a :: l => (a.toNat : Int) * 256 ^ k + keyN k l

theorem pow_pos (k : Nat) : (0 : Int) < 256 ^ k := Int.pow_pos (by omega)
theorem keyN_bd : ∀ (k : Nat) (l : List UInt8), 0 ≤ keyN k l ∧ keyN k l < 256 ^ k
  | 0, _ => by simp [keyN]
  | k + 1, [] => by simp only [keyN]; exact ⟨by omega, pow_pos (k + 1)⟩
  | k + 1, a :: l => by
    have ih := keyN_bd k l
    have hp := pow_pos k
    have ha : (a.toNat : Int) ≤ 255 := by have := a.toNat_lt; omega
    have hn : (0 : Int) ≤ (a.toNat : Int) * 256 ^ k := Int.mul_nonneg (by omega) (by omega)
    have hm : (a.toNat : Int) * 256 ^ k ≤ 255 * 256 ^ k := Int.mul_le_mul_of_nonneg_right ha (by omega)
    simp only [keyN]
    rw [Int.pow_succ]
    generalize (256 : Int) ^ k = P at *
    generalize (a.toNat : Int) * P = Q at *
    omega
theorem keyN_mono : ∀ (k : Nat) (a b : List UInt8), le a b → keyN k a ≤ keyN k b
  | 0, _, _, _ => by simp [keyN]
  | k + 1, [], b, _ => by
    have := keyN_bd (k + 1) b
    simp only [keyN]; omega
  | k + 1, _ :: _, [], h => by unfold le at h; simp [compareBytes] at h
  | k + 1, a :: l, b :: m, h => by
    unfold le at h
    unfold compareBytes at h
    simp only [keyN]
    have h1 := keyN_bd k l
    have h2 := keyN_bd k m
    by_cases ab : a < b
    · have hab : (a.toNat : Int) + 1 ≤ (b.toNat : Int) := by have := UInt8.lt_iff_toNat_lt.1 ab; omega
      have hm : ((a.toNat : Int) + 1) * 256 ^ k ≤ (b.toNat : Int) * 256 ^ k := Int.mul_le_mul_of_nonneg_right hab (by have := pow_pos k; omega)
      rw [Int.add_mul, Int.one_mul] at hm
      omega
    · rw [if_neg ab] at h
      by_cases ba : b < a
      · rw [if_pos ba] at h; omega
      · rw [if_neg ba] at h
        have e : a = b := UInt8.le_antisymm (UInt8.not_lt.1 ba) (UInt8.not_lt.1 ab)
        subst e
        have := keyN_mono k l m h
        omega

def keyOf (l : List UInt8) : Int := keyN 8 l
theorem keyOf_bd (l : List UInt8) : 0 ≤ keyOf l ∧ keyOf l < 18446744073709551616 := keyN_bd 8 l
theorem keyOf_mono (a b : List UInt8) (h : le a b) : keyOf a ≤ keyOf b := keyN_mono 8 a b h
theorem le_of_key (a b : List UInt8) (h : keyOf a < keyOf b) : le a b := by
  rcases le_total a b with h1 | h1
  · exact h1
  · have := keyOf_mono b a h1; omega

/-- Sorted permutations of one list are one list. -/
theorem sorted_unique (l m : List (List UInt8)) (h1 : l.Pairwise le) (h2 : m.Pairwise le) (hp : l.Perm m) : l = m :=
  List.Perm.eq_of_pairwise (fun a b _ _ hab hba => le_antisymm a b hab hba) h1 h2 hp

end Go.Proofs.Qxb6616291a.Ord
