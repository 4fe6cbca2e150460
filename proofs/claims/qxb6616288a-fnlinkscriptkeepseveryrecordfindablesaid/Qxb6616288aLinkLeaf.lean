import Derived.Test.Qxb6616288aLinkMem
import Derived.WalkSpells
import Derived.WalkLawsBesides
namespace Go.Proofs.Qxb6616288a.Lnk
open Go.RowKit

theorem ret_u64 {a b : Int} (h : a = b) : Ending.returned (.int .u64 a) = .returned (.int .u64 b) := by rw [h]

theorem offOK_any (o : Int) (w : World) (h1 : -9223372036854775808 ≤ o) (h2 : o ≤ 9223372036854775807) :
    Calls Try.prog 8 #[.int .i64 o] w fun e w' => e = .returned (.bool (decide (0 ≤ o) && decide (o ≤ 4294967295))) ∧ w = w' := by
  by_cases h : 0 ≤ o
  · go_enter Try.func8, Try.ntmps8
    go_wp2
    go_ret
    exact ⟨by simp; omega, rfl⟩
  · go_enter Try.func8, Try.ntmps8
    go_wp2
    go_ret
    exact ⟨by simp; omega, rfl⟩

theorem want_any (fp o : Int) (w : World) (h1 : 0 ≤ fp) (h2 : fp ≤ 1073741823) (h3 : 0 ≤ o) (h4 : o ≤ 4294967295) :
    Calls Try.prog 10 #[.int .u64 fp, .int .i64 o] w fun e w' => e = .returned (.int .u64 (want fp o)) ∧ w = w' := by
  go_enter Try.func10, Try.ntmps10
  go_wp2
  go_ret
  exact ⟨ret_u64 (by rw [and_lo o h3 h4, or_hi fp h1 h2, or_lo _ o (by omega) (by omega) h3 h4 (by omega)]; rfl), rfl⟩

theorem slotFor_any (fp o : Int) (w : World) (h1 : 0 ≤ fp) (h2 : fp ≤ 1073741823) (h3 : 0 ≤ o) (h4 : o ≤ 4294967295) :
    Calls Try.prog 32 #[.int .u64 fp, .int .i64 o] w fun e w' => e = .returned (.int .u64 (want fp o)) ∧ w = w' := by
  go_enter Try.func32, Try.ntmps32
  go_wp2
  go_ret
  exact ⟨ret_u64 (by rw [or_hi fp h1 h2, or_lo _ o (by omega) (by omega) h3 h4 (by omega)]; rfl), rfl⟩

/-- Where a fingerprint's probe run starts. -/
def home (fp : Int) (n : Nat) : Nat := (fp * n / 1073741824).toNat
theorem home_lt (fp : Int) (n : Nat) (h1 : 0 ≤ fp) (h2 : fp ≤ 1073741823) (h3 : 1 ≤ n) : home fp n < n := by
  unfold home
  have e1 : 0 ≤ fp * n := Int.mul_nonneg h1 (by omega)
  have e2 : fp * n < 1073741824 * n := Int.mul_lt_mul_of_pos_right (by omega) (by omega)
  generalize fp * n = q at *
  omega
theorem home_bd (fp : Int) (n : Nat) (h1 : 0 ≤ fp) (h2 : fp ≤ 1073741823) (h4 : n ≤ 4096) : 0 ≤ fp * n ∧ fp * n ≤ 4398046507008 := by
  have e1 : 0 ≤ fp * n := Int.mul_nonneg h1 (by omega)
  have e2 : fp * n ≤ 1073741823 * n := Int.mul_le_mul_of_nonneg_right h2 (by omega)
  generalize fp * n = q at *
  omega

theorem zzHome_any (fp : Int) (n : Nat) (w : World) (h1 : 0 ≤ fp) (h2 : fp ≤ 1073741823) (h4 : n ≤ 4096) :
    Calls Try.prog 28 #[.int .u64 fp, .int .i64 n] w fun e w' => e = .returned (.int .i64 (home fp n)) ∧ w = w' := by
  obtain ⟨h5, h6⟩ := home_bd fp n h1 h2 h4
  go_enter Try.func28, Try.ntmps28
  go_wp2
  go_ret
  refine ⟨?_, rfl⟩
  show Ending.returned (.int .i64 (fp * n / 1073741824)) = _
  unfold home
  rw [Int.toNat_of_nonneg (by omega)]

theorem zzSlot_any (b n : Nat) (T : Nat → Int) (i : Nat) (w : World) (hT : Tab w b n T) (hi : i < n) (hn : n ≤ 4096) (h1 : 0 ≤ T i) (h2 : T i < 18446744073709551616) :
    Calls Try.prog 11 #[.slice (some ⟨b, 0, none⟩) (8 * n) (8 * n), .int .i64 i] w fun e w' => e = .returned (.int .u64 (T i)) ∧ w = w' := by
  have HC : Hid (∀ j, j < 8 → w.cell? ⟨b, 8 * i + j, none⟩ = some (.int .u8 (byteOf (T i) j))) := fun j hj => hT.cell i hi j hj
  have HZ : Hid (hiOf (T i) 0 = 0) := hiOf_zero (T i) h1 h2
  have HE : Hid (hiOf (T i) 8 = T i) := hiOf_eight (T i)
  have HS : Hid (∀ m, m < 8 → hiOf (T i) (m + 1) = hiOf (T i) m * 256 + byteOf (T i) (7 - m)) := fun m hm => hiOf_succ (T i) m hm
  have HB : Hid (∀ m, m < 8 → 0 ≤ hiOf (T i) m ∧ hiOf (T i) m < 72057594037927936) := fun m hm => hiOf_bd (T i) m hm h1 h2
  go_enter Try.func11, Try.ntmps11
  go_wp2
  go_loop [5, 6] (fun v k => ∃ m : Nat, m ≤ 8 ∧ k = .int .i64 (7 - (m : Int)) ∧ v = .int .u64 (hiOf (T i) m)) (fun _ k => (intOf k + 1).toNat)
  case atStart => exact ⟨0, by omega, rfl, by rw [HZ.out]⟩
  case round =>
    obtain ⟨m, hm, rfl, rfl⟩ := hrel
    by_cases hlt : m < 8
    · have hc : w.cell? ⟨b, 8 * i + (7 - m), none⟩ = some (.int .u8 (byteOf (T i) (7 - m))) := HC.out (7 - m) (by omega)
      obtain ⟨hb1, hb2⟩ := HB.out m hlt
      obtain ⟨hb3, hb4⟩ := byteOf_bd (T i) (7 - m)
      go_wp2
      go_round
      case rel => exact ⟨m + 1, by omega, by go_num, by rw [HS.out m hlt, or_byte _ _ hb1 hb2 hb3 hb4]⟩
      case measure => simp [intOf]; omega
    · go_wp2
      go_ret
      refine ⟨ret_u64 ?_, rfl⟩
      have : m = 8 := by omega
      subst this
      exact HE.out

theorem byteOf_shift (v : Int) (m : Nat) : v / 2 ^ (8 * m) % 256 = byteOf v m := by
  have e : (2 : Int) ^ (8 * m) = 256 ^ m := by rw [Int.pow_mul]; rfl
  rw [byteOf, e]

theorem zzPut_any (b n : Nat) (T : Nat → Int) (i : Nat) (v : Int) (w : World) (hT : Tab w b n T) (hi : i < n) (hn : n ≤ 4096) (_h1 : 0 ≤ v) (_h2 : v < 18446744073709551616) :
    Calls Try.prog 23 #[.slice (some ⟨b, 0, none⟩) (8 * n) (8 * n), .int .i64 i, .int .u64 v] w fun e w' => e = .returned (.tuple #[]) ∧ Tab w' b n (fun k => if k = i then v else T k) ∧ But [b] w w' ∧ w'.heap.size = w.heap.size := by
  go_enter Try.func23, Try.ntmps23
  go_wp2
  go_loopw [6] (fun k wr => ∃ m : Nat, m ≤ 8 ∧ k = .int .i64 m ∧ PartTab wr b n T i v m ∧ But [b] w wr ∧ wr.heap.size = w.heap.size) (fun k _ => 8 - (intOf k).toNat)
  case atStart => exact ⟨0, by omega, rfl, hT.part i v, But.refl _ _, rfl⟩
  case round =>
    obtain ⟨m, hm, rfl, hp, hbut, hsz⟩ := hrel
    by_cases hlt : m < 8
    · obtain ⟨z, hz⟩ := hp.cell m hi hlt
      have hf := hp.free (8 * i + m)
      have HP : Hid (PartTab (wr.setCell ⟨b, 8 * i + m, none⟩ (.int .u8 (byteOf v m))) b n T i v (m + 1)) := hp.step hi hlt
      have HS : Hid ((wr.setCell ⟨b, 8 * i + m, none⟩ (.int .u8 (byteOf v m))).heap.size = w.heap.size) := by simp [World.setCell]; exact hsz
      have HB : Hid (But [b] w (wr.setCell ⟨b, 8 * i + m, none⟩ (.int .u8 (byteOf v m)))) := hbut.setCell (p := ⟨b, 8 * i + m, none⟩) (by simp) _
      clear hsz
      go_wp2
      go_roundw
      case rel => rw [byteOf_shift]; exact ⟨m + 1, by omega, by go_num, HP.out, HB.out, HS.out⟩
      case measure => simp [intOf]; omega
    · go_wp2
      go_end0
      have : m = 8 := by omega
      subst this
      exact ⟨rfl, hp.done, hbut, hsz⟩

theorem cell_past {w : World} {b o : Nat} {v : Value} (x : Obj) (h : w.cell? ⟨b, o, none⟩ = some v) : (w.alloc x).cell? ⟨b, o, none⟩ = some v :=
  (World.cell?_of_block (w := w) (a := ⟨b, o, none⟩) (Below.heap_alloc _ _ _ (World.block_lt_of_cell? w _ h))).trans h
theorem free_past {w : World} {b o : Nat} {v : Value} (x : Obj) (h : w.cell? ⟨b, o, none⟩ = some v) (f : w.frozen? ⟨b, o, none⟩ = false) : (w.alloc x).frozen? ⟨b, o, none⟩ = false :=
  (World.frozen?_of_block (w := w) (a := ⟨b, o, none⟩) (Below.heap_alloc _ _ _ (World.block_lt_of_cell? w _ h))).trans f

theorem getUint64_any (g o n c : Nat) (z0 z1 z2 z3 z4 z5 z6 z7 : Int) (w : World) (hn : 8 ≤ n)
    (c0 : w.cell? ⟨g, o, none⟩ = some (.int .u8 z0)) (c1 : w.cell? ⟨g, o + 1, none⟩ = some (.int .u8 z1)) (c2 : w.cell? ⟨g, o + 2, none⟩ = some (.int .u8 z2)) (c3 : w.cell? ⟨g, o + 3, none⟩ = some (.int .u8 z3)) (c4 : w.cell? ⟨g, o + 4, none⟩ = some (.int .u8 z4)) (c5 : w.cell? ⟨g, o + 5, none⟩ = some (.int .u8 z5)) (c6 : w.cell? ⟨g, o + 6, none⟩ = some (.int .u8 z6)) (c7 : w.cell? ⟨g, o + 7, none⟩ = some (.int .u8 z7))
    (h0 : 0 ≤ z0 ∧ z0 ≤ 255) (h1 : 0 ≤ z1 ∧ z1 ≤ 255) (h2 : 0 ≤ z2 ∧ z2 ≤ 255) (h3 : 0 ≤ z3 ∧ z3 ≤ 255) (h4 : 0 ≤ z4 ∧ z4 ≤ 255) (h5 : 0 ≤ z5 ∧ z5 ≤ 255) (h6 : 0 ≤ z6 ∧ z6 ≤ 255) (h7 : 0 ≤ z7 ∧ z7 ≤ 255) :
    Calls Try.prog 38 #[.agg #[], .slice (some ⟨g, o, none⟩) n c] w fun e w' => e = .returned (.int .u64 (z0 + z1 * 256 + z2 * 65536 + z3 * 16777216 + z4 * 4294967296 + z5 * 1099511627776 + z6 * 281474976710656 + z7 * 72057594037927936)) ∧ ∃ q, w' = (w.alloc (.cells #[] 70)).drewN q := by
  obtain ⟨a0, b0⟩ := h0
  obtain ⟨a1, b1⟩ := h1
  obtain ⟨a2, b2⟩ := h2
  obtain ⟨a3, b3⟩ := h3
  obtain ⟨a4, b4⟩ := h4
  obtain ⟨a5, b5⟩ := h5
  obtain ⟨a6, b6⟩ := h6
  obtain ⟨a7, b7⟩ := h7
  have d0 := cell_past (.cells #[] 70) c0
  have d1 := cell_past (.cells #[] 70) c1
  have d2 := cell_past (.cells #[] 70) c2
  have d3 := cell_past (.cells #[] 70) c3
  have d4 := cell_past (.cells #[] 70) c4
  have d5 := cell_past (.cells #[] 70) c5
  have d6 := cell_past (.cells #[] 70) c6
  have d7 := cell_past (.cells #[] 70) c7
  have q0 : 0 < n := by omega
  have q1 : (1 : Int) < (n : Int) := by omega
  have q2 : (2 : Int) < (n : Int) := by omega
  have q3 : (3 : Int) < (n : Int) := by omega
  have q4 : (4 : Int) < (n : Int) := by omega
  have q5 : (5 : Int) < (n : Int) := by omega
  have q6 : (6 : Int) < (n : Int) := by omega
  have q7 : (7 : Int) < (n : Int) := by omega
  go_enter Try.func38, Try.ntmps38
  go_wp2
  go_quiet (fail)
  go_wp2
  go_ret
  refine ⟨ret_u64 ?_, _, rfl⟩
  simp (disch := omega) only [u64_or8, u64_or16, u64_or24, u64_or32, u64_or40, u64_or48, u64_or56]

end Go.Proofs.Qxb6616288a.Lnk
