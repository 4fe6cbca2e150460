import Derived.Test.Qxb6616301aSearch
/-! b1CopyInts; parts of a slice; the plain law of the cut. -/
namespace Go.Proofs.Qxb6616301a
open Go.RowKit

theorem info3 : (Try.prog.info? 3).map (fun i => (i.zero, i.size, i.bytes)) = some (some (.int .i64 0), 1, 8) := by kernel_rfl

/-- Block g is a row of n ints, the first k are Z's. -/
def IRow (w : World) (g n : Nat) (Z : Nat → Int) (k : Nat) : Prop :=
  ∃ cs : Array Value, w.heap[g]? = some (.cells cs 3 (0, 0)) ∧ cs.size = n ∧ (∀ j, j < n → ∃ z, cs[j]? = some (.int .i64 z)) ∧ ∀ j, j < k → cs[j]? = some (.int .i64 (Z j))
theorem IRow.cell {w : World} {g n : Nat} {Z : Nat → Int} {k : Nat} (h : IRow w g n Z k) (j : Nat) (hj : j < n) : ∃ z, w.cell? ⟨g, j, none⟩ = some (.int .i64 z) := by
  obtain ⟨cs, h1, h2, h3, h4⟩ := h
  rw [cell_of_row w g j cs 3 (0, 0) h1]
  exact h3 j hj
theorem IRow.free {w : World} {g n : Nat} {Z : Nat → Int} {k : Nat} (h : IRow w g n Z k) (j : Nat) : w.frozen? ⟨g, j, none⟩ = false := by
  obtain ⟨cs, h1, _⟩ := h
  exact frozen_of_row w g j cs 3 h1
theorem IRow.stored {w : World} {g n : Nat} {Z : Nat → Int} {k : Nat} (h : IRow w g n Z k) (hk : k < n) : IRow (w.setCell ⟨g, k, none⟩ (.int .i64 (Z k))) g n Z (k + 1) := by
  obtain ⟨cs, h1, h2, h3, h4⟩ := h
  refine ⟨cs.setIfInBounds k (.int .i64 (Z k)), heap_setCell_same w g k cs 3 _ h1, by simpa using h2, fun j hj => ?_, fun j hj => ?_⟩
  · rw [Array.getElem?_setIfInBounds]
    by_cases e : k = j
    · rw [if_pos e, if_pos (by omega)]; exact ⟨_, rfl⟩
    · rw [if_neg e]; exact h3 j hj
  · rw [Array.getElem?_setIfInBounds]
    by_cases e : k = j
    · subst e; rw [if_pos rfl, if_pos (by omega)]
    · rw [if_neg e]; exact h4 j (by omega)
theorem IRow.reads {w : World} {g n : Nat} {Z : Nat → Int} (h : IRow w g n Z n) : ReadsI w (some ⟨g, 0, none⟩) n Z := by
  obtain ⟨cs, h1, h2, h3, h4⟩ := h
  intro j hj
  refine ⟨g, 0, rfl, ?_⟩
  rw [Nat.zero_add, cell_of_row w g j cs 3 (0, 0) h1]
  exact h4 j hj

/-- A slice over memory of the call's own, or nil. -/
def Own (a : Option Addr) : Prop := a = none ∨ ∃ b, a = some ⟨b, 0, none⟩
/-- What b1CopyInts leaves. -/
def Copied (len : Nat) (Z : Nat → Int) (w : World) (e : Ending) (w' : World) : Prop := ∃ a', e = .returned (.slice a' len len) ∧ Own a' ∧ ReadsI w' a' len Z ∧ But [] w w'

set_option maxHeartbeats 1000000 in
theorem copy_any (a : Option Addr) (len cap : Nat) (Z : Nat → Int) (w : World) (hR : ReadsI w a len Z) (hl : len ≤ 131072) : Calls Try.prog 7 #[.slice a len cap] w (Copied len Z w) := by
  have HR : Hid (ReadsI w a len Z) := hR
  have he := fun (w : World) => Lib.run_eql_slice_nil (P := Try.prog) w 22 3 a len cap 0 0 Try.underlying22
  rcases a with _ | x
  · have hz : len = 0 := by
      rcases Nat.eq_zero_or_pos len with h | h
      · exact h
      · obtain ⟨b, o, e, _⟩ := hR 0 h; simp at e
    subst hz
    clear hR
    go_enter Try.func7, Try.ntmps7
    go_wp2_with fail
    go_ret
    exact ⟨none, rfl, .inl rfl, fun j hj => by omega, But.refl _ _⟩
  · clear hR
    obtain ⟨i3, hi, hz0, hz1, hz2⟩ := info_parts info3
    go_enter Try.func7, Try.ntmps7
    go_wp2_with (at_make; refine wpList_make_full _ rfl _ _ 22 rfl w.heap.size 3 i3 _ 1 Try.underlying22 hi hz0 hz1 _ _ _ _ len rfl rfl rfl rfl (by rw [hz2]; omega) (by unfold maxLen; omega) (Nat.le_refl _) ?_; intro w1 hown hgr)
    have hI : IRow w1 w.heap.size len Z 0 := by
      rcases hown.2 with ⟨h', _⟩ | ⟨g', cap', cur, h', _, hg, h2, h3, h4, htake⟩
      · simp at h'
      · simp only [Value.slice.injEq, Option.some.injEq, Addr.mk.injEq, and_true, true_and] at h'
        obtain ⟨rfl, rfl⟩ := h'
        refine ⟨cur, hg, by omega, fun j hj => ⟨0, ?_⟩, fun j hj => by omega⟩
        have e0 : (Value.int .i64 0).cells = #[.int .i64 0] := rfl
        rw [e0, toList_madeCells_one, List.take_of_length_le (by simp; omega)] at htake
        rw [← Array.getElem?_toList, htake, List.getElem?_replicate, if_pos (by omega)]
    have b1 : But [] w w1 := But.of_grown hgr
    generalize hg : w.heap.size = g at *
    clear hown hgr
    go_wp2_with fail
    go_loopw [4] (fun i wx => ∃ k : Nat, k ≤ len ∧ i = .int .i64 k ∧ Hid (IRow wx g len Z k) ∧ But [] w wx) (fun i _ => len - (intOf i).toNat)
    case atStart => exact ⟨0, by omega, rfl, hI, b1⟩
    case round =>
      obtain ⟨k, hk, rfl, HI, hb⟩ := hrel
      by_cases hlt : k < len
      · obtain ⟨b, o, e, hc⟩ := (HR.out.kept hb) k hlt
        obtain rfl : x = ⟨b, o, none⟩ := by simpa using e
        obtain ⟨z, hz⟩ := HI.out.cell k hlt
        have hf := HI.out.free k
        have HN : Hid (IRow (wr.setCell ⟨g, k, none⟩ (.int .i64 (Z k))) g len Z (k + 1)) := HI.out.stored hlt
        have bN : But [] w (wr.setCell ⟨g, k, none⟩ (.int .i64 (Z k))) := hb.own ((But.refl [g] wr).setCell (by simp) _) (by simp; omega)
        go_wp2_with fail
        go_roundw
        case rel => exact ⟨k + 1, by omega, by go_num, HN, bN⟩
        case measure => simp [intOf]; omega
      · have hke : len = k := by omega
        subst hke
        go_wp2_with fail
        go_ret
        exact ⟨some ⟨g, 0, none⟩, rfl, .inr ⟨g, rfl⟩, HI.out.reads, hb⟩

theorem sizeOf3 (w : World) : (sizeOf 3).run Try.prog w = .ok 1 w := by kernel_rfl
theorem cut_to (a : Option Addr) (n c : Nat) (hc : c ≤ n) (ha : Own a) :
    ∃ a', (∀ w, (Instr.slice 22 (.slice a n n) none (some (.int .i64 (c : Int))) none).run Try.prog w = .ok (.slice a' c n) w) ∧ ∀ w Z, ReadsI w a n Z → ReadsI w a' c Z := by
  have he : Try.prog.elem 22 = 3 := by kernel_rfl
  have hs : ∀ w, (sizeOf (Try.prog.elem 22)).run Try.prog w = .ok 1 w := fun w => by rw [he]; exact sizeOf3 w
  refine ⟨a, fun w => ?_, fun w Z h j hj => h j (by omega)⟩
  rw [run_slice_h (P := Try.prog) w 22 _ _ _ (by rw [he]; exact Try.underlying22) .i64 _ (by omega) (by omega), hs]
  have e : (if n = 0 then a else a.map (·.add (0 * 1))) = a := by
    split
    · rfl
    · rcases ha with rfl | ⟨b, rfl⟩
      · rfl
      · simp [Go.WideShapes.add_plain]
  simp only [Result.andThen, sliced, Int.toNat_natCast, e, Nat.sub_zero]
theorem cut_rest (a : Option Addr) (n c : Nat) (hc : c ≤ n) (ha : Own a) :
    ∃ a', (∀ w, (Instr.slice 22 (.slice a n n) (some (.int .i64 (c : Int))) none none).run Try.prog w = .ok (.slice a' (n - c) (n - c)) w) ∧ ∀ w Z, ReadsI w a n Z → ReadsI w a' (n - c) (fun j => Z (c + j)) := by
  have he : Try.prog.elem 22 = 3 := by kernel_rfl
  have hs : ∀ w, (sizeOf (Try.prog.elem 22)).run Try.prog w = .ok 1 w := fun w => by rw [he]; exact sizeOf3 w
  refine ⟨if n = c then a else a.map (·.add (c * 1)), fun w => ?_, fun w Z h j hj => ?_⟩
  · rw [run_slice_l (P := Try.prog) w 22 _ _ _ (by rw [he]; exact Try.underlying22) .i64 _ (by omega) (by omega), hs]
    simp only [Result.andThen, sliced, Int.toNat_natCast]
  · obtain ⟨b, o, rfl, hcell⟩ := h (c + j) (by omega)
    refine ⟨b, o + c, ?_, by rw [Nat.add_assoc]; exact hcell⟩
    rw [if_neg (by omega)]
    simp [Go.WideShapes.add_plain]

theorem Lower.unique {Z : Nat → Int} {len : Nat} {t : Int} {i j : Nat} (h : Lower Z len t i) (k : Lower Z len t j) : i = j := by
  rcases Nat.lt_trichotomy i j with hij | hij | hij
  · have h1 := k.low i hij
    have h2 := h.high i (Nat.le_refl _) (by have := k.le; omega)
    omega
  · exact hij
  · have h1 := h.low j hij
    have h2 := k.high j (Nat.le_refl _) (by have := h.le; omega)
    omega
/-- The plain law of the cut. -/
theorem cut_law {Z : Nat → Int} {n c : Nat} {t : Int} {x p s : Nat} (hZ : Rises Z n) (hc : c ≤ n) (hx : Lower Z n t x) (hp : Lower Z c t p) (hs : Lower (fun j => Z (c + j)) (n - c) t s) : x = p + s := by
  refine hx.unique ?_
  have h1 := hp.le
  have h2 := hs.le
  by_cases e : p = c
  · subst e
    refine ⟨by omega, fun j hj => ?_, fun j h3 h4 => ?_⟩
    · by_cases h5 : j < p
      · exact hp.low j h5
      · have := hs.low (j - p) (by omega)
        rwa [show p + (j - p) = j by omega] at this
    · have := hs.high (j - p) (by omega) (by omega)
      rwa [show p + (j - p) = j by omega] at this
  · have h3 := hp.high p (Nat.le_refl _) (by omega)
    have hall : ∀ j, p ≤ j → j < n → t ≤ Z j := fun j h4 h5 => by
      by_cases h6 : j = p
      · subst h6; exact h3
      · have := hZ p j (by omega) h5; omega
    have hs0 : s = 0 := by
      rcases Nat.eq_zero_or_pos s with h | h
      · exact h
      · have := hs.low 0 h
        have := hall (c + 0) (by omega) (by omega)
        omega
    subst hs0
    exact ⟨by omega, fun j hj => hp.low j (by omega), fun j h4 h5 => hall j (by omega) h5⟩
/-- The cut is passed where the last number before it lies before the offset. -/
theorem passed_law {Z : Nat → Int} {c : Nat} {t : Int} {p : Nat} (hZ : Rises Z c) (hp : Lower Z c t p) : p = c ↔ (c = 0 ∨ Z (c - 1) < t) := by
  have h1 := hp.le
  refine ⟨fun e => ?_, fun h => ?_⟩
  · subst e
    by_cases h : p = 0
    · exact .inl h
    · exact .inr (hp.low (p - 1) (by omega))
  · rcases h with h | h
    · omega
    · by_cases e : p = c
      · exact e
      · have h2 := hp.high p (Nat.le_refl _) (by omega)
        by_cases h3 : p = c - 1
        · subst h3; omega
        · have := hZ p (c - 1) (by omega) (by omega); omega

end Go.Proofs.Qxb6616301a
