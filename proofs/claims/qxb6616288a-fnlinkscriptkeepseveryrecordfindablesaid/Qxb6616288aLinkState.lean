import Derived.Test.Qxb6616288aLinkSearch
/-! THE SCRIPT's STATE behind k links: the model, the index, the shard, the positions. -/
namespace Go.Proofs.Qxb6616288a.Lnk
open Go.RowKit

theorem But.of_grown {w w' : World} (h : w.grownBy w' none) : But [] w w' := ⟨h.os, h.tape, h.output, h.size, fun k hk _ => h.block k hk (by simp)⟩

def Pos (w : World) (p len : Nat) (P : Nat → Nat) (k : Nat) : Prop :=
  ∃ cs : Array Value, w.heap[p]? = some (.cells cs 3 (0, 0)) ∧ cs.size = len ∧ (∀ j, j < len → ∃ z, cs[j]? = some (.int .i64 z)) ∧ ∀ j, j < k → cs[j]? = some (.int .i64 (P j : Nat))

theorem Pos.made {w : World} {p len base cap : Nat} (h : w.ownsRow base 3 1 (.slice (some ⟨p, 0, none⟩) len len) len (madeCells #[.int .i64 0] cap).toList) (hc : cap = len) (P : Nat → Nat) : Pos w p len P 0 := by
  subst hc
  rcases h.2 with ⟨h', _⟩ | ⟨g', cap', cur, h', _, hg, h2, h3, h4, htake⟩
  · simp at h'
  · simp only [Value.slice.injEq, Option.some.injEq, Addr.mk.injEq, and_true, true_and] at h'
    obtain ⟨rfl, rfl⟩ := h'
    refine ⟨cur, hg, by omega, fun j hj => ⟨0, ?_⟩, fun j hj => by omega⟩
    rw [toList_madeCells_one, List.take_of_length_le (by simp; omega)] at htake
    rw [← Array.getElem?_toList, htake, List.getElem?_replicate, if_pos (by omega)]
theorem Pos.kept {bs : List Nat} {w w' : World} {p len : Nat} {P : Nat → Nat} {k : Nat} (h : Pos w p len P k) (hb : But bs w w') (hn : ¬ p ∈ bs) : Pos w' p len P k := by
  obtain ⟨cs, h1, h2, h3, h4⟩ := h
  exact ⟨cs, hb.get h1 hn, h2, h3, h4⟩
theorem Pos.free {w : World} {p len : Nat} {P : Nat → Nat} {k : Nat} (h : Pos w p len P k) (j : Nat) : w.frozen? ⟨p, j, none⟩ = false := by
  obtain ⟨cs, h1, h2, h3⟩ := h
  exact frozen_of_row w p j cs 3 h1
theorem Pos.cell {w : World} {p len : Nat} {P : Nat → Nat} {k : Nat} (h : Pos w p len P k) (j : Nat) (hj : j < len) : ∃ z, w.cell? ⟨p, j, none⟩ = some (.int .i64 z) := by
  obtain ⟨cs, h1, h2, h3, h4⟩ := h
  rw [cell_of_row w p j cs 3 (0, 0) h1]
  exact h3 j hj
theorem Pos.at {w : World} {p len : Nat} {P : Nat → Nat} {k : Nat} (h : Pos w p len P k) (j : Nat) (hj : j < k) : w.cell? ⟨p, j, none⟩ = some (.int .i64 (P j : Nat)) := by
  obtain ⟨cs, h1, h2, h3, h4⟩ := h
  rw [cell_of_row w p j cs 3 (0, 0) h1]
  exact h4 j hj
theorem Pos.stored {w : World} {p len : Nat} {P : Nat → Nat} {k : Nat} (h : Pos w p len P k) (hk : k < len) (i : Nat) : Pos (w.setCell ⟨p, k, none⟩ (.int .i64 (i : Nat))) p len (fun j => if j = k then i else P j) (k + 1) := by
  obtain ⟨cs, h1, h2, h3, h4⟩ := h
  refine ⟨cs.setIfInBounds k (.int .i64 (i : Nat)), heap_setCell_same w p k cs 3 _ h1, by simpa using h2, fun j hj => ?_, fun j hj => ?_⟩
  · rw [Array.getElem?_setIfInBounds]
    by_cases e : k = j
    · rw [if_pos e, if_pos (by omega)]; exact ⟨_, rfl⟩
    · rw [if_neg e]; exact h3 j hj
  · rw [Array.getElem?_setIfInBounds]
    by_cases e : k = j
    · subst e; rw [if_pos rfl, if_pos (by omega)]; simp
    · rw [if_neg e, h4 j (by omega)]; simp only [if_neg (by omega : ¬ j = k)]

/-- The memory's side. -/
structure Mem (w wr : World) (M S D Pb n len : Nat) (T : Nat → Int) (P : Nat → Nat) (k : Nat) : Prop where
  model : Tab wr M n T
  index : Tab wr S n T
  shard : Shd wr D S n k
  pos : Pos wr Pb len P k
  old : Below w.heap.size w wr

/-- The four blocks are four, and the call's own. -/
structure Apart (B M S D Pb : Nat) : Prop where
  m : B ≤ M
  s : M < S
  d : S < D
  p : D < Pb

theorem Mem.kept {w wr wr' : World} {M S D Pb n len : Nat} {T : Nat → Int} {P : Nat → Nat} {k : Nat} (h : Mem w wr M S D Pb n len T P k) (hb : But [] wr wr') : Mem w wr' M S D Pb n len T P k :=
  ⟨h.model.kept hb (by simp), h.index.kept hb (by simp), h.shard.kept hb (by simp), h.pos.kept hb (by simp), h.old.trans (hb.below h.old.size (by simp))⟩

theorem Mem.start {w wr wM wS wD wP : World} {n len : Nat} (h0 : Below w.heap.size w wr)
    (hM : wM.ownsRow w.heap.size 5 1 (.slice (some ⟨wr.heap.size, 0, none⟩) (8 * n) (8 * n)) (8 * n) (madeCells (Value.int .u8 0).cells (8 * n * 1)).toList) (gM : wr.grownBy wM none)
    (hS : wS.ownsRow w.heap.size 5 1 (.slice (some ⟨wM.heap.size, 0, none⟩) (8 * n) (8 * n)) (8 * n) (madeCells (Value.int .u8 0).cells (8 * n * 1)).toList) (gS : wM.grownBy wS none)
    (hD : Shd wD wS.heap.size wM.heap.size n 0) (gD : But [] wS wD)
    (hP : wP.ownsRow w.heap.size 3 1 (.slice (some ⟨wS.heap.size + 1, 0, none⟩) len len) len (madeCells (Value.int .i64 0).cells (len * 1)).toList) (gP : wD.grownBy wP none) (P : Nat → Nat) :
    Mem w wP wr.heap.size wM.heap.size wS.heap.size (wS.heap.size + 1) n len (fun _ => 0) P 0 ∧ Apart w.heap.size wr.heap.size wM.heap.size wS.heap.size (wS.heap.size + 1) := by
  have tM : Tab wM wr.heap.size n (fun _ => 0) := Tab.made (by simpa [Value.cells] using hM) rfl
  have tS : Tab wS wM.heap.size n (fun _ => 0) := Tab.made (by simpa [Value.cells] using hS) rfl
  have pP : Pos wP (wS.heap.size + 1) len P 0 := Pos.made (by simpa [Value.cells] using hP) rfl P
  have b1 := But.of_grown gM
  have b2 := But.of_grown gS
  have b4 := But.of_grown gP
  have l1 := tM.lt
  have l2 := tS.lt
  refine ⟨⟨((tM.kept b2 (by simp)).kept gD (by simp)).kept b4 (by simp), (tS.kept gD (by simp)).kept b4 (by simp), hD.kept b4 (by simp), pP, ?_⟩, ⟨h0.size, l1, l2, by omega⟩⟩
  exact h0.trans ((b1.trans (b2.trans (gD.trans b4))).below h0.size (by simp))

/-- One round of the script, as far as memory goes: the position stored, the model's slot put, the record linked. -/
theorem Mem.posStored {w wr : World} {M S D Pb n len : Nat} {T : Nat → Int} {P : Nat → Nat} {k : Nat} (h : Mem w wr M S D Pb n len T P k) (a : Apart w.heap.size M S D Pb) (hk : k < len) (i : Nat) :
    Tab (wr.setCell ⟨Pb, k, none⟩ (.int .i64 (i : Nat))) M n T ∧ Tab (wr.setCell ⟨Pb, k, none⟩ (.int .i64 (i : Nat))) S n T ∧ Shd (wr.setCell ⟨Pb, k, none⟩ (.int .i64 (i : Nat))) D S n k ∧
    Pos (wr.setCell ⟨Pb, k, none⟩ (.int .i64 (i : Nat))) Pb len (fun j => if j = k then i else P j) (k + 1) ∧ Below w.heap.size w (wr.setCell ⟨Pb, k, none⟩ (.int .i64 (i : Nat))) := by
  have hm := a.m
  have hs := a.s
  have hd := a.d
  have hp := a.p
  have b : But [Pb] wr (wr.setCell ⟨Pb, k, none⟩ (.int .i64 (i : Nat))) := (But.refl _ _).setCell (by simp) _
  exact ⟨h.model.kept b (by simp; omega), h.index.kept b (by simp; omega), h.shard.kept b (by simp; omega), h.pos.stored hk i, h.old.setCell (p := ⟨Pb, k, none⟩) (by show w.heap.size ≤ Pb; omega) _⟩

end Go.Proofs.Qxb6616288a.Lnk
