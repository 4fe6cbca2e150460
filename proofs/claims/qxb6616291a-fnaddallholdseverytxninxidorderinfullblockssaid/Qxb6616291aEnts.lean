import Derived.Test.Qxb6616291aLeaf
import Derived.Test.Qxb6616291aRadix
/-! ENTRIES IN MEMORY: a row of entries, two cells each; the table of 256 counts. -/
namespace Go.Proofs.Qxb6616291a
open Go.RowKit

/-- An entry of an index: its key, and the block of its transaction. -/
structure Ent where
  key : Int
  tb : Nat

/-- Entry e lies at place u of the cells cs. -/
def At (cs : Array Value) (u : Nat) (e : Ent) : Prop := cs[u * 2]? = some (.int .u64 e.key) ∧ cs[u * 2 + 1]? = some (.pointer (some ⟨e.tb, 0, none⟩))

/-- Block b is a row of m entries, of which those that D tells are known. -/
def Part (w : World) (b m : Nat) (D : Nat → Ent → Prop) : Prop :=
  ∃ cs : Array Value, w.heap[b]? = some (.cells cs 41 (0, 0)) ∧ cs.size = 2 * m ∧ (∀ u, u < m → ∃ z p, cs[u * 2]? = some (.int .u64 z) ∧ cs[u * 2 + 1]? = some (.pointer p)) ∧ ∀ u e, u < m → D u e → At cs u e

/-- Block b is the row of the entries L. -/
def Row (w : World) (b : Nat) (L : List Ent) : Prop := Part w b L.length (fun u e => L[u]? = some e)

theorem Part.lt {w : World} {b m : Nat} {D : Nat → Ent → Prop} (h : Part w b m D) : b < w.heap.size := by
  obtain ⟨cs, h1, _⟩ := h
  exact (Array.getElem?_eq_some_iff.1 h1).1
theorem Part.kept {bs : List Nat} {w w' : World} {b m : Nat} {D : Nat → Ent → Prop} (h : Part w b m D) (hb : But bs w w') (hn : ¬ b ∈ bs) : Part w' b m D := by
  obtain ⟨cs, h1, h2⟩ := h
  exact ⟨cs, hb.get h1 hn, h2⟩
theorem Part.weaken {w : World} {b m : Nat} {D D' : Nat → Ent → Prop} (h : Part w b m D) (hd : ∀ u e, u < m → D' u e → D u e) : Part w b m D' := by
  obtain ⟨cs, h1, h2, h3, h4⟩ := h
  exact ⟨cs, h1, h2, h3, fun u e hu hd' => h4 u e hu (hd u e hu hd')⟩
theorem Part.cells {w : World} {b m : Nat} {D : Nat → Ent → Prop} (h : Part w b m D) (u : Nat) (hu : u < m) : ∃ z p, w.cell? ⟨b, u * 2, none⟩ = some (.int .u64 z) ∧ w.cell? ⟨b, u * 2 + 1, none⟩ = some (.pointer p) := by
  obtain ⟨cs, h1, h2, h3, h4⟩ := h
  rw [cell_of_row w b _ cs 41 (0, 0) h1, cell_of_row w b _ cs 41 (0, 0) h1]
  exact h3 u hu
theorem Part.at {w : World} {b m : Nat} {D : Nat → Ent → Prop} (h : Part w b m D) (u : Nat) (e : Ent) (hu : u < m) (hd : D u e) : w.cell? ⟨b, u * 2, none⟩ = some (.int .u64 e.key) ∧ w.cell? ⟨b, u * 2 + 1, none⟩ = some (.pointer (some ⟨e.tb, 0, none⟩)) := by
  obtain ⟨cs, h1, h2, h3, h4⟩ := h
  rw [cell_of_row w b _ cs 41 (0, 0) h1, cell_of_row w b _ cs 41 (0, 0) h1]
  exact h4 u e hu hd
theorem Part.free {w : World} {b m : Nat} {D : Nat → Ent → Prop} (h : Part w b m D) (j : Nat) : w.frozen? ⟨b, j, none⟩ = false := by
  obtain ⟨cs, h1, _⟩ := h
  exact frozen_of_row w b j cs 41 h1
theorem Part.stored {w : World} {b m : Nat} {D D' : Nat → Ent → Prop} (h : Part w b m D) (u : Nat) (e : Ent) (hu : u < m) (h1 : ∀ e', D' u e' → e' = e) (h2 : ∀ v e', v ≠ u → D' v e' → D v e') :
    Part ((w.setCell ⟨b, u * 2, none⟩ (.int .u64 e.key)).setCell ⟨b, u * 2 + 1, none⟩ (.pointer (some ⟨e.tb, 0, none⟩))) b m D' := by
  obtain ⟨cs, k1, k2, k3, k4⟩ := h
  refine ⟨(cs.setIfInBounds (u * 2) (.int .u64 e.key)).setIfInBounds (u * 2 + 1) (.pointer (some ⟨e.tb, 0, none⟩)), heap_setCell_same _ b (u * 2 + 1) _ 41 _ (heap_setCell_same w b (u * 2) cs 41 _ k1), by simpa using k2, fun v hv => ?_, fun v e' hv hd => ?_⟩
  · by_cases c : v = u
    · subst c
      refine ⟨e.key, some ⟨e.tb, 0, none⟩, ?_, ?_⟩
      · rw [Array.getElem?_setIfInBounds, if_neg (by omega), Array.getElem?_setIfInBounds, if_pos rfl, if_pos (by omega)]
      · rw [Array.getElem?_setIfInBounds, if_pos rfl, if_pos (by simp; omega)]
    · obtain ⟨z, p, q1, q2⟩ := k3 v hv
      refine ⟨z, p, ?_, ?_⟩
      · rw [Array.getElem?_setIfInBounds, if_neg (by omega), Array.getElem?_setIfInBounds, if_neg (by omega)]; exact q1
      · rw [Array.getElem?_setIfInBounds, if_neg (by omega), Array.getElem?_setIfInBounds, if_neg (by omega)]; exact q2
  · by_cases c : v = u
    · subst c
      rw [h1 e' hd]
      refine ⟨?_, ?_⟩
      · rw [Array.getElem?_setIfInBounds, if_neg (by omega), Array.getElem?_setIfInBounds, if_pos rfl, if_pos (by omega)]
      · rw [Array.getElem?_setIfInBounds, if_pos rfl, if_pos (by simp; omega)]
    · obtain ⟨q1, q2⟩ := k4 v e' hv (h2 v e' c hd)
      refine ⟨?_, ?_⟩
      · rw [Array.getElem?_setIfInBounds, if_neg (by omega), Array.getElem?_setIfInBounds, if_neg (by omega)]; exact q1
      · rw [Array.getElem?_setIfInBounds, if_neg (by omega), Array.getElem?_setIfInBounds, if_neg (by omega)]; exact q2
theorem Part.made (w : World) (m : Nat) : Part (w.alloc (.cells (madeCells #[.int .u64 0, .pointer none] (m * 2)) 41)) w.heap.size m (fun _ _ => False) := by
  refine ⟨_, heap_alloc_new w _, by rw [size_madeCells]; omega, fun u hu => ⟨0, none, ?_, ?_⟩, fun u e _ hd => hd.elim⟩
  · simp [madeCells, show u * 2 < m * 2 by omega]
  · simp [madeCells, show u * 2 + 1 < m * 2 by omega, show (u * 2 + 1) % 2 = 1 by omega]

theorem Row.entry {w : World} {b : Nat} {L : List Ent} (h : Row w b L) (i : Nat) (hi : i < L.length) : w.cell? ⟨b, i * 2, none⟩ = some (.int .u64 L[i].key) ∧ w.cell? ⟨b, i * 2 + 1, none⟩ = some (.pointer (some ⟨L[i].tb, 0, none⟩)) :=
  Part.at h i L[i] hi (by simp)

/-- Block A is the table of 256 counts g. -/
def Tab (w : World) (A : Nat) (g : Nat → Nat) : Prop :=
  ∃ cs : Array Value, w.heap[A]? = some (.cells cs 122 (0, 0)) ∧ cs.size = 256 ∧ ∀ b, b < 256 → cs[b]? = some (.int .i64 (g b : Nat))
theorem Tab.cell {w : World} {A : Nat} {g : Nat → Nat} (h : Tab w A g) (b : Nat) (hb : b < 256) : w.cell? ⟨A, b, none⟩ = some (.int .i64 (g b : Nat)) := by
  obtain ⟨cs, h1, h2, h3⟩ := h
  rw [cell_of_row w A b cs 122 (0, 0) h1]
  exact h3 b hb
theorem Tab.free {w : World} {A : Nat} {g : Nat → Nat} (h : Tab w A g) (j : Nat) : w.frozen? ⟨A, j, none⟩ = false := by
  obtain ⟨cs, h1, _⟩ := h
  exact frozen_of_row w A j cs 122 h1
theorem Tab.lt {w : World} {A : Nat} {g : Nat → Nat} (h : Tab w A g) : A < w.heap.size := by
  obtain ⟨cs, h1, _⟩ := h
  exact (Array.getElem?_eq_some_iff.1 h1).1
theorem Tab.kept {bs : List Nat} {w w' : World} {A : Nat} {g : Nat → Nat} (h : Tab w A g) (hb : But bs w w') (hn : ¬ A ∈ bs) : Tab w' A g := by
  obtain ⟨cs, h1, h2⟩ := h
  exact ⟨cs, hb.get h1 hn, h2⟩
theorem Tab.stored {w : World} {A : Nat} {g g' : Nat → Nat} (h : Tab w A g) (b v : Nat) (hb : b < 256) (h1 : g' b = v) (h2 : ∀ c, c < 256 → c ≠ b → g' c = g c) : Tab (w.setCell ⟨A, b, none⟩ (.int .i64 (v : Nat))) A g' := by
  obtain ⟨cs, k1, k2, k3⟩ := h
  refine ⟨cs.setIfInBounds b (.int .i64 (v : Nat)), heap_setCell_same w A b cs 122 _ k1, by simpa using k2, fun c hc => ?_⟩
  by_cases e : b = c
  · subst e; rw [Array.getElem?_setIfInBounds, if_pos rfl, if_pos (by omega), h1]
  · rw [Array.getElem?_setIfInBounds, if_neg e, k3 c hc, h2 c hc (fun e' => e e'.symm)]
theorem zero122 : Try.zeroCells122 = Array.replicate 256 (.int .i64 0) := by kernel_rfl
theorem Tab.made (w : World) : Tab (w.alloc (.cells Try.zeroCells122 122)) w.heap.size (fun _ => 0) := by
  refine ⟨_, heap_alloc_new w _, by rw [zero122]; simp, fun b hb => ?_⟩
  rw [zero122, Array.getElem?_replicate, if_pos hb]
  rfl
theorem Tab.congr {w : World} {A : Nat} {g g' : Nat → Nat} (h : Tab w A g) (hg : ∀ b, b < 256 → g' b = g b) : Tab w A g' := by
  obtain ⟨cs, h1, h2, h3⟩ := h
  exact ⟨cs, h1, h2, fun b hb => by rw [h3 b hb, hg b hb]⟩

theorem Part.ne_tab {w : World} {b m : Nat} {D : Nat → Ent → Prop} (h : Part w b m D) {A : Nat} {g : Nat → Nat} (hA : Tab w A g) : b ≠ A := by
  obtain ⟨cs, h1, _⟩ := h
  obtain ⟨cs', h1', _⟩ := hA
  rintro rfl
  rw [h1] at h1'
  simp at h1'

theorem index122 (cs : Array Value) (k : Nat) (v : Value) (hk : k < 256) (h : cs[k]? = some v) (w : World) :
    (Instr.index 122 (.agg cs) (.int .i64 (k : Int))).run Try.prog w = .ok v w := by
  have hs : ∀ w, (sizeOf 3).run Try.prog w = .ok 1 w := fun w => by kernel_rfl
  have ha : ∀ w, (isAgg 3).run Try.prog w = .ok false w := fun w => by kernel_rfl
  simp [Instr.index, asIntOf, run_underlying Try.underlying122, hs, part, ha, h, hk]
theorem size122 : (Try.prog.info? 122).map (·.size) = some 256 := by kernel_rfl

/-- The byte that a pass sorts by. -/
def byteAt (s : Nat) (e : Ent) : Nat := (e.key / 2 ^ s % 256).toNat
theorem byteAt_lt (s : Nat) (e : Ent) : byteAt s e < 256 := by unfold byteAt; omega
theorem byteAt_int (s : Nat) (e : Ent) : ((byteAt s e : Nat) : Int) = e.key / 2 ^ s % 256 := by unfold byteAt; omega

end Go.Proofs.Qxb6616291a
