import Derived.Test.Qxb6616291aRuns
/-! AN INDEX IN MEMORY: its blocks, each of 384 entries but the last. -/
namespace Go.Proofs.Qxb6616291a
open Go.RowKit

def flat (E : List Ent) : List Value := E.flatMap encE
theorem flat_nil : flat [] = [] := rfl
theorem flat_append (A B : List Ent) : flat (A ++ B) = flat A ++ flat B := by unfold flat; rw [List.flatMap_append]
theorem flat_one (e : Ent) : flat [e] = [.int .u64 e.key, .pointer (some ⟨e.tb, 0, none⟩)] := by simp [flat, encE]
theorem flat_length : ∀ E : List Ent, (flat E).length = E.length * 2
  | [] => rfl
  | e :: E => by
    have h := flat_length E
    unfold flat at h ⊢
    rw [List.flatMap_cons, List.length_append, h]
    simp [encE]; omega
theorem flat_at : ∀ (E : List Ent) (u : Nat) (e : Ent), E[u]? = some e → (flat E)[u * 2]? = some (.int .u64 e.key) ∧ (flat E)[u * 2 + 1]? = some (.pointer (some ⟨e.tb, 0, none⟩))
  | [], u, e, h => by simp at h
  | a :: E, 0, e, h => by
    simp at h
    subst h
    exact ⟨rfl, rfl⟩
  | a :: E, u + 1, e, h => by
    have ih := flat_at E u e (by simpa using h)
    have e1 : flat (a :: E) = .int .u64 a.key :: .pointer (some ⟨a.tb, 0, none⟩) :: flat E := rfl
    rw [e1, show (u + 1) * 2 = u * 2 + 1 + 1 by omega]
    exact ih
theorem flat_one_cell (E : List Ent) : ∀ v ∈ flat E, v.oneCell' = true := by
  intro v hv
  unfold flat at hv
  obtain ⟨e, _, he⟩ := List.mem_flatMap.1 hv
  simp [encE] at he
  rcases he with rfl | rfl <;> rfl

/-- Block b holds the entries E at its head. -/
def BRow (w : World) (b : Nat) (E : List Ent) : Prop := ∃ cs : Array Value, w.heap[b]? = some (.cells cs 41 (0, 0)) ∧ ∀ u e, E[u]? = some e → At cs u e
theorem BRow.kept {bs : List Nat} {w w' : World} {b : Nat} {E : List Ent} (h : BRow w b E) (hb : But bs w w') (hn : ¬ b ∈ bs) : BRow w' b E := by
  obtain ⟨cs, h1, h2⟩ := h
  exact ⟨cs, hb.get h1 hn, h2⟩
theorem BRow.lt {w : World} {b : Nat} {E : List Ent} (h : BRow w b E) : b < w.heap.size := by
  obtain ⟨cs, h1, _⟩ := h
  exact (Array.getElem?_eq_some_iff.1 h1).1
theorem BRow.entry {w : World} {b : Nat} {E : List Ent} (h : BRow w b E) (i : Nat) (hi : i < E.length) : w.cell? ⟨b, i * 2, none⟩ = some (.int .u64 E[i].key) ∧ w.cell? ⟨b, i * 2 + 1, none⟩ = some (.pointer (some ⟨E[i].tb, 0, none⟩)) := by
  obtain ⟨cs, h1, h2⟩ := h
  rw [cell_of_row w b _ cs 41 (0, 0) h1, cell_of_row w b _ cs 41 (0, 0) h1]
  exact h2 i E[i] (by simp)
theorem Row.brow {w : World} {b : Nat} {E : List Ent} (h : Row w b E) : BRow w b E := by
  obtain ⟨cs, h1, h2, h3, h4⟩ := h
  exact ⟨cs, h1, fun u e he => h4 u e (List.getElem?_eq_some_iff.1 he).1 he⟩
/-- A part of it, as cells from an offset: what append reads. -/
theorem BRow.news {w : World} {b : Nat} {C : List Ent} (h : BRow w b C) (i r : Nat) (hir : i + r ≤ C.length) : ∀ j u, (flat ((C.drop i).take r))[j]? = some u → w.cell? ((⟨b, i * 2, none⟩ : Addr).add j) = some u := by
  intro j u hu
  have hj : j < r * 2 := by
    have h1 := (List.getElem?_eq_some_iff.1 hu).1
    rw [flat_length] at h1
    simp at h1
    omega
  have hq : i + j / 2 < C.length := by omega
  have hg : ((C.drop i).take r)[j / 2]? = some C[i + j / 2] := by
    rw [List.getElem?_take, if_pos (by omega), List.getElem?_drop, List.getElem?_eq_getElem hq]
  obtain ⟨f1, f2⟩ := flat_at _ _ _ hg
  obtain ⟨c1, c2⟩ := h.entry (i + j / 2) hq
  rw [Go.WideShapes.add_plain]
  by_cases c : j % 2 = 0
  · rw [show j / 2 * 2 = j by omega] at f1
    rw [hu] at f1
    rw [show i * 2 + j = (i + j / 2) * 2 by omega, c1, f1]
  · rw [show j / 2 * 2 + 1 = j by omega] at f2
    rw [hu] at f2
    rw [show i * 2 + j = (i + j / 2) * 2 + 1 by omega, c2, f2]

theorem row_of_owns {w : World} {base g n : Nat} {E : List Ent} (h : w.ownsRow base 41 2 (.slice (some ⟨g, 0, none⟩) n n) n (flat E)) (hn : E.length = n) : Row w g E := by
  rcases h.2 with ⟨h', _⟩ | ⟨g', cap', cur, h', _, hg, h2, h3, h4, htake⟩
  · simp at h'
  · simp only [Value.slice.injEq, Option.some.injEq, Addr.mk.injEq, and_true, true_and] at h'
    obtain ⟨rfl, rfl⟩ := h'
    rw [List.take_of_length_le (by simp; omega)] at htake
    have hat : ∀ u e, E[u]? = some e → At cur u e := by
      intro u e he
      obtain ⟨f1, f2⟩ := flat_at E u e he
      rw [← htake] at f1 f2
      exact ⟨by simpa using f1, by simpa using f2⟩
    refine ⟨cur, hg, by omega, fun u hu => ?_, fun u e _ he => hat u e he⟩
    obtain ⟨a1, a2⟩ := hat u E[u] (by simp)
    exact ⟨_, _, a1, a2⟩
theorem brow_of_owns {w : World} {base g n cap : Nat} {E : List Ent} (h : w.ownsRow base 41 2 (.slice (some ⟨g, 0, none⟩) n cap) n (flat E)) (hn : E.length = n) : BRow w g E := by
  rcases h.2 with ⟨h', _⟩ | ⟨g', cap', cur, h', _, hg, h2, h3, h4, htake⟩
  · simp at h'
  · simp only [Value.slice.injEq, Option.some.injEq, Addr.mk.injEq, and_true, true_and] at h'
    obtain ⟨rfl, rfl⟩ := h'
    refine ⟨cur, hg, fun u e he => ?_⟩
    have hu : u < E.length := (List.getElem?_eq_some_iff.1 he).1
    obtain ⟨f1, f2⟩ := flat_at E u e he
    rw [← htake] at f1 f2
    rw [List.getElem?_take, if_pos (by omega)] at f1 f2
    exact ⟨by simpa using f1, by simpa using f2⟩

/-- How many blocks; how many entries block i has; which. -/
def nblk (m : Nat) : Nat := (m + 383) / 384
def blen (m i : Nat) : Nat := min 384 (m - 384 * i)
def chunk (C : List Ent) (i : Nat) : List Ent := (C.drop (384 * i)).take 384
theorem chunk_length (C : List Ent) (i : Nat) : (chunk C i).length = blen C.length i := by simp [chunk, blen]
theorem chunk_at (C : List Ent) (i j : Nat) (hj : j < blen C.length i) : (chunk C i)[j]? = C[384 * i + j]? := by
  unfold blen at hj
  unfold chunk
  rw [List.getElem?_take, if_pos (by omega), List.getElem?_drop]
theorem take_chunk (C : List Ent) (k : Nat) : C.take (384 * (k + 1)) = C.take (384 * k) ++ chunk C k := by
  unfold chunk
  rw [show 384 * (k + 1) = 384 * k + 384 by omega, List.take_add]

/-- The cell of a block's slice. -/
def bval (b m i : Nat) : Value := .slice (some ⟨b, 0, none⟩) (blen m i) 512

/-- Block xb is an index that holds C. -/
def Idx (w : World) (xb : Nat) (C : List Ent) : Prop :=
  ∃ v, w.heap[xb]? = some (.cells #[v] 106 (0, 0)) ∧
    ((C = [] ∧ v = .slice none 0 0) ∨
     ∃ (bb cap : Nat) (Bs : Nat → Nat), v = .slice (some ⟨bb, 0, none⟩) (nblk C.length) cap ∧ (∃ cs : Array Value, w.heap[bb]? = some (.cells cs 37 (0, 0)) ∧ ∀ i, i < nblk C.length → cs[i]? = some (bval (Bs i) C.length i)) ∧ ∀ i, i < nblk C.length → BRow w (Bs i) (chunk C i))

theorem Idx.kept {bs : List Nat} {w w' : World} {xb : Nat} {C : List Ent} (h : Idx w xb C) (hb : But bs w w') (hn : ∀ b ∈ bs, (∀ cs, w.heap[b]? ≠ some (.cells cs 106 (0, 0))) ∧ (∀ cs, w.heap[b]? ≠ some (.cells cs 37 (0, 0))) ∧ (∀ cs, w.heap[b]? ≠ some (.cells cs 41 (0, 0)))) : Idx w' xb C := by
  obtain ⟨v, h1, h2⟩ := h
  refine ⟨v, hb.get h1 (fun hm => (hn xb hm).1 _ h1), ?_⟩
  rcases h2 with h2 | ⟨bb, cap, Bs, e1, ⟨cs, e2, e3⟩, e4⟩
  · exact .inl h2
  · refine .inr ⟨bb, cap, Bs, e1, ⟨cs, hb.get e2 (fun hm => (hn bb hm).2.1 _ e2), e3⟩, fun i hi => ?_⟩
    obtain ⟨cs', k1, k2⟩ := e4 i hi
    exact ⟨cs', hb.get k1 (fun hm => (hn _ hm).2.2 _ k1), k2⟩

/-- Every cell that a walk over the blocks reads, for an index that may be fresh. -/
structure Reads (w : World) (xb : Nat) (C : List Ent) (v : Value) : Prop where
  top : w.cell? ⟨xb, 0, none⟩ = some v
  shape : ∃ a cap, v = .slice a (nblk C.length) cap
  blk : ∀ i, i < nblk C.length → ∃ bb b, (∃ cap, v = .slice (some ⟨bb, 0, none⟩) (nblk C.length) cap) ∧ w.cell? ⟨bb, i, none⟩ = some (bval b C.length i) ∧ BRow w b (chunk C i)

theorem Idx.reads {w : World} {xb : Nat} {C : List Ent} (h : Idx w xb C) : ∃ v, Reads w xb C v := by
  obtain ⟨v, h1, h2⟩ := h
  refine ⟨v, by rw [cell_of_row w xb 0 _ 106 (0, 0) h1]; rfl, ?_, ?_⟩
  · rcases h2 with ⟨rfl, rfl⟩ | ⟨bb, cap, Bs, e1, _⟩
    · exact ⟨none, 0, rfl⟩
    · exact ⟨_, _, e1⟩
  · intro i hi
    rcases h2 with ⟨rfl, rfl⟩ | ⟨bb, cap, Bs, e1, ⟨cs, e2, e3⟩, e4⟩
    · simp [nblk] at hi
    · exact ⟨bb, Bs i, ⟨cap, e1⟩, by rw [cell_of_row w bb i cs 37 (0, 0) e2]; exact e3 i hi, e4 i hi⟩
theorem Reads.kept {w w' : World} {xb : Nat} {C : List Ent} {v : Value} (h : Reads w xb C v) (hb : But [] w w') : Reads w' xb C v := by
  refine ⟨hb.cell h.top (by simp), h.shape, fun i hi => ?_⟩
  obtain ⟨bb, b, h1, h2, h3⟩ := h.blk i hi
  exact ⟨bb, b, h1, hb.cell h2 (by simp), h3.kept hb (by simp)⟩

end Go.Proofs.Qxb6616291a
