import Derived.Test.Qxb6616288aLinkPut
import Derived.Lib.QuietBelow
import Derived.Deep.RegionWith
namespace Go.Proofs.Qxb6616288a.Lnk
open Go.RowKit

theorem slice_from (b n i : Nat) (hi : i < n) (w : World) : (Instr.slice 51 (.slice (some ⟨b, 0, none⟩) (8 * n) (8 * n)) (some (.int .i64 (8 * (i : Int)))) none none).run Try.prog w = .ok (.slice (some ⟨b, 8 * i, none⟩) (8 * n - 8 * i) (8 * n - 8 * i)) w := by
  have hs : ∀ w, (sizeOf (Try.prog.elem 51)).run Try.prog w = .ok 1 w := fun w => by kernel_rfl
  rw [run_slice_l (P := Try.prog) w 51 _ _ _ Try.underlying51 .i64 _ (by omega) (by omega), hs]
  have e : (8 * (i : Int)).toNat = 8 * i := by omega
  have e2 := Go.WideShapes.add_plain b 0 (8 * i)
  simp only [Result.andThen, sliced, e, Nat.mul_one, Option.map_some, e2, Nat.zero_add]
  rw [if_neg (by omega)]
theorem slice_at (b n i : Nat) (hi : i < n) (w : World) : (Instr.sliceAt 51 (.slice (some ⟨b, 0, none⟩) (8 * n) (8 * n)) (some (.int .i64 (8 * (i : Int)))) none none).run Try.prog w = .ok (.slice (some ⟨b, 8 * i, none⟩) (8 * n - 8 * i) (8 * n - 8 * i)) w := by
  rw [run_sliceAt_slice (P := Try.prog) w 51 _ _ _ _ Try.underlying51]
  exact slice_from b n i hi w

set_option maxHeartbeats 400000 in
theorem at_any (b n : Nat) (T : Nat → Int) (i : Nat) (w : World) (hT : Tab w b n T) (hi : i < n) (hn : n ≤ 4096) (h1 : 0 ≤ T i) (h2 : T i < 18446744073709551616) :
    Calls Try.prog 35 #[.slice (some ⟨b, 0, none⟩) (8 * n) (8 * n), .int .i64 i] w fun e w' => e = .returned (.int .u64 (T i)) ∧ But [] w w' := by
  have hsl := slice_at b n i hi
  have hw8 : IntKind.i64.wrap (8 * (i : Int)) = 8 * (i : Int) := IntWalk.i64_in _ (by omega)
  go_enter Try.func35, Try.ntmps35
  go_wp2
  go_region_with (go_at_call 38; refine (getUint64_tab b n T i _ ?_ hi h1 h2 _ _ ?_).mono ?_; exact hT; omega; rintro e w' ⟨rfl, q, rfl⟩)
  all_goals
    go_wp2
    go_ret
    exact ⟨rfl, ((But.refl _ _).alloc _).drewN _⟩

set_option maxHeartbeats 400000 in
theorem put_any (b n : Nat) (T : Nat → Int) (i : Nat) (v : Int) (w : World) (hT : Tab w b n T) (hi : i < n) (hn : n ≤ 4096) (h1 : 0 ≤ v) (h2 : v < 18446744073709551616) :
    Calls Try.prog 36 #[.slice (some ⟨b, 0, none⟩) (8 * n) (8 * n), .int .i64 i, .int .u64 v] w fun e w' => e = .returned (.tuple #[]) ∧ Tab w' b n (fun k => if k = i then v else T k) ∧ But [b] w w' := by
  have hsl := slice_at b n i hi
  have hw8 : IntKind.i64.wrap (8 * (i : Int)) = 8 * (i : Int) := IntWalk.i64_in _ (by omega)
  go_enter Try.func36, Try.ntmps36
  go_wp2
  go_region_with (go_at_call 39; refine (putUint64_tab b n T i v _ ?_ hi h1 h2 _ _ ?_).mono ?_; exact hT; omega; rintro e w' ⟨rfl, hT', hb'⟩)
  all_goals
    go_wp2
    go_end0
    exact ⟨rfl, hT', ((But.refl _ _).drew).trans hb'⟩

/-- Block d is a shard whose index is the slice over block b, of n slots, and whose count is c. -/
def Shd (w : World) (d b n : Nat) (c : Int) : Prop :=
  ∃ cs : Array Value, w.heap[d]? = some (.cells cs 63 (0, 0)) ∧ cs[7]? = some (.slice (some ⟨b, 0, none⟩) (8 * n) (8 * n)) ∧ cs[8]? = some (.int .i64 c)
theorem Shd.slots {w : World} {d b n : Nat} {c : Int} (h : Shd w d b n c) : w.cell? ⟨d, 7, none⟩ = some (.slice (some ⟨b, 0, none⟩) (8 * n) (8 * n)) := by
  obtain ⟨cs, h1, h2, h3⟩ := h
  rw [cell_of_row w d 7 cs 63 (0, 0) h1, h2]
theorem Shd.count {w : World} {d b n : Nat} {c : Int} (h : Shd w d b n c) : w.cell? ⟨d, 8, none⟩ = some (.int .i64 c) := by
  obtain ⟨cs, h1, h2, h3⟩ := h
  rw [cell_of_row w d 8 cs 63 (0, 0) h1, h3]
theorem Shd.free {w : World} {d b n : Nat} {c : Int} (h : Shd w d b n c) : w.frozen? ⟨d, 8, none⟩ = false := by
  obtain ⟨cs, h1, h2, h3⟩ := h
  exact frozen_of_row w d 8 cs 63 h1
theorem Shd.kept {bs : List Nat} {w w' : World} {d b n : Nat} {c : Int} (h : Shd w d b n c) (hb : But bs w w') (hn : ¬ d ∈ bs) : Shd w' d b n c := by
  obtain ⟨cs, h1, h2, h3⟩ := h
  exact ⟨cs, hb.get h1 hn, h2, h3⟩
theorem Shd.ne {w : World} {d b n : Nat} {c : Int} {T : Nat → Int} (h : Shd w d b n c) {m : Nat} (hT : Tab w m n T) : d ≠ m := by
  obtain ⟨cs, h1, _⟩ := h
  obtain ⟨cs', h1', _⟩ := hT
  rintro rfl
  rw [h1] at h1'
  simp at h1'
theorem Shd.stored {w : World} {d b n : Nat} {c : Int} (h : Shd w d b n c) (c' : Int) : Shd (w.setCell ⟨d, 8, none⟩ (.int .i64 c')) d b n c' := by
  obtain ⟨cs, h1, h2, h3⟩ := h
  have hs : 8 < cs.size := (Array.getElem?_eq_some_iff.1 h3).1
  refine ⟨cs.setIfInBounds 8 (.int .i64 c'), heap_setCell_same w d 8 cs 63 _ h1, ?_, ?_⟩
  · rw [Array.getElem?_setIfInBounds, if_neg (by omega)]; exact h2
  · rw [Array.getElem?_setIfInBounds, if_pos rfl, if_pos hs]

theorem home_any (d b n : Nat) (c : Int) (fp : Int) (w : World) (hS : Shd w d b n c) (h1 : 0 ≤ fp) (h2 : fp ≤ 1073741823) (h4 : n ≤ 4096) :
    Calls Try.prog 33 #[.pointer (some ⟨d, 0, none⟩), .int .u64 fp] w fun e w' => e = .returned (.int .i64 (home fp n)) ∧ w = w' := by
  obtain ⟨h5, h6⟩ := home_bd fp n h1 h2 h4
  have hc := hS.slots
  have e8 : (8 * (n : Int)) / 8 = n := by omega
  go_enter Try.func33, Try.ntmps33
  go_wp2
  go_ret
  refine ⟨?_, rfl⟩
  show Ending.returned (.int .i64 (fp * n / 1073741824)) = _
  unfold home
  rw [Int.toNat_of_nonneg (by omega)]

theorem next_any (d b n : Nat) (c : Int) (i : Nat) (w : World) (hS : Shd w d b n c) (hi : i < n) (h4 : n ≤ 4096) :
    Calls Try.prog 34 #[.pointer (some ⟨d, 0, none⟩), .int .i64 i] w fun e w' => e = .returned (.int .i64 ((i + 1) % n : Nat)) ∧ w = w' := by
  have hc := hS.slots
  have e8 : (8 * (n : Int)) / 8 = n := by omega
  by_cases h : i + 1 = n
  · have hb : ((i : Int) + 1 == (n : Int)) = true := beq_iff_eq.2 (by omega)
    go_enter Try.func34, Try.ntmps34
    go_wp2
    go_ret
    refine ⟨?_, rfl⟩
    rw [h, Nat.mod_self]
    rfl
  · have hb : ((i : Int) + 1 == (n : Int)) = false := beq_eq_false_iff_ne.2 (by omega)
    go_enter Try.func34, Try.ntmps34
    go_wp2
    go_ret
    refine ⟨?_, rfl⟩
    rw [Nat.mod_eq_of_lt (by omega)]
    rfl

theorem count_any (d b n : Nat) (c : Int) (w : World) (hS : Shd w d b n c) :
    Calls Try.prog 20 #[.pointer (some ⟨d, 0, none⟩)] w fun e w' => e = .returned (.int .i64 c) ∧ w = w' := by
  have hc := hS.count
  go_enter Try.func20, Try.ntmps20
  go_wp2
  go_ret
  exact ⟨rfl, rfl⟩
theorem table_any (d b n : Nat) (c : Int) (w : World) (hS : Shd w d b n c) :
    Calls Try.prog 21 #[.pointer (some ⟨d, 0, none⟩)] w fun e w' => e = .returned (.slice (some ⟨b, 0, none⟩) (8 * n) (8 * n)) ∧ w = w' := by
  have hc := hS.slots
  go_enter Try.func21, Try.ntmps21
  go_wp2
  go_ret
  exact ⟨rfl, rfl⟩
theorem newShard_any (b n : Nat) (w : World) :
    Calls Try.prog 12 #[.slice (some ⟨b, 0, none⟩) (8 * n) (8 * n), .int .i64 0] w fun e w' => e = .returned (.pointer (some ⟨w.heap.size, 0, none⟩)) ∧ Shd w' w.heap.size b n 0 ∧ But [] w w' ∧ w'.heap.size = w.heap.size + 1 := by
  go_enter Try.func12, Try.ntmps12
  go_wp2
  go_ret
  exact ⟨rfl, ⟨_, heap_alloc_new w _, rfl, rfl⟩, (But.refl _ _).alloc _, by simp⟩

set_option maxHeartbeats 400000 in
theorem link_any (d b n : Nat) (c : Int) (T : Nat → Int) (i : Nat) (fp o : Int) (w : World) (hS : Shd w d b n c) (hT : Tab w b n T) (hi : i < n) (hn : n ≤ 4096) (h1 : 0 ≤ fp) (h2 : fp ≤ 1073741823) (h3 : 0 ≤ o) (h4 : o ≤ 4294967295) (h5 : 0 ≤ c) (h6 : c ≤ 4096) :
    Calls Try.prog 30 #[.pointer (some ⟨d, 0, none⟩), .int .i64 i, .int .u64 fp, .int .i64 o] w fun e w' => e = .returned (.tuple #[]) ∧ Tab w' b n (fun k => if k = i then want fp o else T k) ∧ Shd w' d b n (c + 1) ∧ But [b, d] w w' := by
  have hc := hS.slots
  obtain ⟨hw1, hw2⟩ := want_bd fp o h1 h2 h3 h4
  have hne := hS.ne hT
  go_enter Try.func30, Try.ntmps30
  go_wp2
  go_region_with (first | (go_at_call 32; refine (slotFor_any fp o _ h1 h2 h3 h4).mono ?_; rintro e w' ⟨rfl, rfl⟩) | (go_at_call 36; refine (put_any b n T i (want fp o) _ ?_ hi hn ?_ ?_).mono ?_; exact hT; omega; omega; rintro e w' ⟨rfl, hT', hb'⟩))
  all_goals
    have hS' : Shd w' d b n c := Shd.kept (w := w.drew) (by exact hS) hb' (by simp; exact hne)
    have hcc := hS'.count
    have hcf := hS'.free
    have HF : Hid (Tab (w'.setCell ⟨d, 8, none⟩ (.int .i64 (c + 1))) b n (fun k => if k = i then want fp o else T k) ∧ Shd (w'.setCell ⟨d, 8, none⟩ (.int .i64 (c + 1))) d b n (c + 1) ∧ But [b, d] w (w'.setCell ⟨d, 8, none⟩ (.int .i64 (c + 1)))) :=
      ⟨hT'.kept (bs := [d]) ((But.refl _ _).setCell (by simp) _) (by simp; omega), hS'.stored _, ((((But.refl _ w).drew).trans (hb'.mono (by simp)))).setCell (by simp) _⟩
    clear hT hT' hb' hS hS'
    go_wp2
    go_end0
    exact ⟨rfl, HF.out⟩

theorem shardLink_any (d b n : Nat) (c : Int) (T : Nat → Int) (i : Nat) (fp o : Int) (w : World) (hS : Shd w d b n c) (hT : Tab w b n T) (hi : i < n) (hn : n ≤ 4096) (h1 : 0 ≤ fp) (h2 : fp ≤ 1073741823) (h3 : 0 ≤ o) (h4 : o ≤ 4294967295) (h5 : 0 ≤ c) (h6 : c ≤ 4096) :
    Calls Try.prog 19 #[.pointer (some ⟨d, 0, none⟩), .int .i64 i, .int .u64 fp, .int .i64 o] w fun e w' => e = .returned (.tuple #[]) ∧ Tab w' b n (fun k => if k = i then want fp o else T k) ∧ Shd w' d b n (c + 1) ∧ But [b, d] w w' := by
  go_enter Try.func19, Try.ntmps19
  go_wp2_with (go_at_call 30; refine (link_any d b n c T i fp o _ hS hT hi hn h1 h2 h3 h4 h5 h6).mono ?_; rintro e w' ⟨rfl, hq⟩)
  go_end0
  exact ⟨rfl, hq⟩

end Go.Proofs.Qxb6616288a.Lnk
