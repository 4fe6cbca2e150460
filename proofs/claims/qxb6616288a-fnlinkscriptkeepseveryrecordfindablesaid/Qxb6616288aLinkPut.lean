import Derived.Test.Qxb6616288aLinkLeaf
namespace Go.Proofs.Qxb6616288a.Lnk
open Go.RowKit

theorem PartTab.step_at {w : World} {b n : Nat} {T : Nat → Int} {i : Nat} {v : Int} {m : Nat} (h : PartTab w b n T i v m) (hi : i < n) (hm : m < 8) (o : Nat) (ho : o = 8 * i + m) (x : Int) (hx : x = byteOf v m) : PartTab (w.setCell ⟨b, o, none⟩ (.int .u8 x)) b n T i v (m + 1) := by
  subst ho hx
  exact h.step hi hm

set_option maxHeartbeats 4000000 in
set_option maxRecDepth 100000 in
theorem putUint64_raw (g o n c : Nat) (v : Int) (h1 : 0 ≤ v) (h2 : v < 18446744073709551616) (x0 x1 x2 x3 x4 x5 x6 x7 : Value) (w : World) (hn : 8 ≤ n)
    (c0 : w.cell? ⟨g, o, none⟩ = some x0) (c1 : w.cell? ⟨g, o + 1, none⟩ = some x1) (c2 : w.cell? ⟨g, o + 2, none⟩ = some x2) (c3 : w.cell? ⟨g, o + 3, none⟩ = some x3) (c4 : w.cell? ⟨g, o + 4, none⟩ = some x4) (c5 : w.cell? ⟨g, o + 5, none⟩ = some x5) (c6 : w.cell? ⟨g, o + 6, none⟩ = some x6) (c7 : w.cell? ⟨g, o + 7, none⟩ = some x7)
    (f0 : w.frozen? ⟨g, o, none⟩ = false) (f1 : w.frozen? ⟨g, o + 1, none⟩ = false) (f2 : w.frozen? ⟨g, o + 2, none⟩ = false) (f3 : w.frozen? ⟨g, o + 3, none⟩ = false) (f4 : w.frozen? ⟨g, o + 4, none⟩ = false) (f5 : w.frozen? ⟨g, o + 5, none⟩ = false) (f6 : w.frozen? ⟨g, o + 6, none⟩ = false) (f7 : w.frozen? ⟨g, o + 7, none⟩ = false) :
    Calls Try.prog 39 #[.agg #[], .slice (some ⟨g, o, none⟩) n c, .int .u64 v] w fun e w' => e = .returned (.tuple #[]) ∧ w' = (((((((((w.alloc (.cells #[] 70)).setCell ⟨g, o, none⟩ (.int .u8 (v % 256))).setCell ⟨g, o + 1, none⟩ (.int .u8 (v / 256 % 256))).setCell ⟨g, o + 2, none⟩ (.int .u8 (v / 65536 % 256))).setCell ⟨g, o + 3, none⟩ (.int .u8 (v / 16777216 % 256))).setCell ⟨g, o + 4, none⟩ (.int .u8 (v / 4294967296 % 256))).setCell ⟨g, o + 5, none⟩ (.int .u8 (v / 1099511627776 % 256))).setCell ⟨g, o + 6, none⟩ (.int .u8 (v / 281474976710656 % 256))).setCell ⟨g, o + 7, none⟩ (.int .u8 (v / 72057594037927936))) := by
  have d0 := cell_past (.cells #[] 70) c0
  have fa0 := free_past (.cells #[] 70) c0 f0
  have d1 := cell_past (.cells #[] 70) c1
  have fa1 := free_past (.cells #[] 70) c1 f1
  have d2 := cell_past (.cells #[] 70) c2
  have fa2 := free_past (.cells #[] 70) c2 f2
  have d3 := cell_past (.cells #[] 70) c3
  have fa3 := free_past (.cells #[] 70) c3 f3
  have d4 := cell_past (.cells #[] 70) c4
  have fa4 := free_past (.cells #[] 70) c4 f4
  have d5 := cell_past (.cells #[] 70) c5
  have fa5 := free_past (.cells #[] 70) c5 f5
  have d6 := cell_past (.cells #[] 70) c6
  have fa6 := free_past (.cells #[] 70) c6 f6
  have d7 := cell_past (.cells #[] 70) c7
  have fa7 := free_past (.cells #[] 70) c7 f7
  have q0 : 0 < n := by omega
  have q1 : (1 : Int) < (n : Int) := by omega
  have q2 : (2 : Int) < (n : Int) := by omega
  have q3 : (3 : Int) < (n : Int) := by omega
  have q4 : (4 : Int) < (n : Int) := by omega
  have q5 : (5 : Int) < (n : Int) := by omega
  have q6 : (6 : Int) < (n : Int) := by omega
  have q7 : (7 : Int) < (n : Int) := by omega
  go_enter Try.func39, Try.ntmps39
  go_wp2
  go_end0
  exact ⟨rfl, rfl⟩

theorem putUint64_tab (b n : Nat) (T : Nat → Int) (i : Nat) (v : Int) (w : World) (hT : Tab w b n T) (hi : i < n) (h1 : 0 ≤ v) (h2 : v < 18446744073709551616) (len c : Nat) (hl : 8 ≤ len) :
    Calls Try.prog 39 #[.agg #[], .slice (some ⟨b, 8 * i, none⟩) len c, .int .u64 v] w fun e w' => e = .returned (.tuple #[]) ∧ Tab w' b n (fun k => if k = i then v else T k) ∧ But [b] w w' := by
  refine (putUint64_raw b (8 * i) len c v h1 h2 _ _ _ _ _ _ _ _ w hl (hT.cell i hi 0 (by omega)) (hT.cell i hi 1 (by omega)) (hT.cell i hi 2 (by omega)) (hT.cell i hi 3 (by omega)) (hT.cell i hi 4 (by omega)) (hT.cell i hi 5 (by omega)) (hT.cell i hi 6 (by omega)) (hT.cell i hi 7 (by omega))
    (hT.free _) (hT.free _) (hT.free _) (hT.free _) (hT.free _) (hT.free _) (hT.free _) (hT.free _)).mono ?_
  rintro e w' ⟨rfl, rfl⟩
  have hA : Tab (w.alloc (.cells #[] 70)) b n T := hT.kept (bs := []) ((But.refl _ _).alloc _) (by simp)
  have p0 := hA.part i v
  have p1 := p0.step_at hi (by omega) (8 * i) (by omega) (v % 256) (by simp [byteOf])
  have p2 := p1.step_at hi (by omega) (8 * i + 1) (by omega) (v / 256 % 256) (by simp [byteOf])
  have p3 := p2.step_at hi (by omega) (8 * i + 2) (by omega) (v / 65536 % 256) (by simp [byteOf])
  have p4 := p3.step_at hi (by omega) (8 * i + 3) (by omega) (v / 16777216 % 256) (by simp [byteOf])
  have p5 := p4.step_at hi (by omega) (8 * i + 4) (by omega) (v / 4294967296 % 256) (by simp [byteOf])
  have p6 := p5.step_at hi (by omega) (8 * i + 5) (by omega) (v / 1099511627776 % 256) (by simp [byteOf])
  have p7 := p6.step_at hi (by omega) (8 * i + 6) (by omega) (v / 281474976710656 % 256) (by simp [byteOf])
  have p8 := p7.step_at hi (by omega) (8 * i + 7) (by omega) (v / 72057594037927936) (by simp [byteOf]; omega)
  refine ⟨rfl, p8.done, ?_⟩
  have b0 : But [b] w (w.alloc (.cells #[] 70)) := (But.refl _ _).alloc _
  exact (((((((b0.setCell (by simp) _).setCell (by simp) _).setCell (by simp) _).setCell (by simp) _).setCell (by simp) _).setCell (by simp) _).setCell (by simp) _).setCell (by simp) _

theorem getUint64_tab (b n : Nat) (T : Nat → Int) (i : Nat) (w : World) (hT : Tab w b n T) (hi : i < n) (h1 : 0 ≤ T i) (h2 : T i < 18446744073709551616) (len c : Nat) (hl : 8 ≤ len) :
    Calls Try.prog 38 #[.agg #[], .slice (some ⟨b, 8 * i, none⟩) len c] w fun e w' => e = .returned (.int .u64 (T i)) ∧ ∃ q, w' = (w.alloc (.cells #[] 70)).drewN q := by
  refine (getUint64_any b (8 * i) len c _ _ _ _ _ _ _ _ w hl (hT.cell i hi 0 (by omega)) (hT.cell i hi 1 (by omega)) (hT.cell i hi 2 (by omega)) (hT.cell i hi 3 (by omega)) (hT.cell i hi 4 (by omega)) (hT.cell i hi 5 (by omega)) (hT.cell i hi 6 (by omega)) (hT.cell i hi 7 (by omega))
    (byteOf_bd _ _) (byteOf_bd _ _) (byteOf_bd _ _) (byteOf_bd _ _) (byteOf_bd _ _) (byteOf_bd _ _) (byteOf_bd _ _) (byteOf_bd _ _)).mono ?_
  rintro e w' ⟨rfl, hq⟩
  exact ⟨ret_u64 (bytes_sum (T i) h1 h2), hq⟩

end Go.Proofs.Qxb6616288a.Lnk
