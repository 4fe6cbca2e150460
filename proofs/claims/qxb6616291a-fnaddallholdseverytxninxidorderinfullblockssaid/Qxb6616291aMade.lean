import Derived.Test.Qxb6616291aAddAll
import Derived.Test.Qxb6616291aBytes
/-! THE LAW's OWN TRANSACTIONS: slices of pointers, and what an index of them holds. -/
namespace Go.Proofs.Qxb6616291a
open Go.RowKit

theorem info27 : (Try.prog.info? 27).map (fun i => (i.zero, i.size, i.bytes)) = some (some (.pointer none), 1, 8) := by kernel_rfl

/-- Block pb is a row of n pointers, the first k to the transactions P. -/
def TRow (w : World) (pb n : Nat) (P : Nat → Nat) (k : Nat) : Prop :=
  ∃ cs : Array Value, w.heap[pb]? = some (.cells cs 27 (0, 0)) ∧ cs.size = n ∧ (∀ j, j < n → ∃ p, cs[j]? = some (.pointer p)) ∧ ∀ j, j < k → cs[j]? = some (.pointer (some ⟨P j, 0, none⟩))
theorem TRow.kept {bs : List Nat} {w w' : World} {pb n : Nat} {P : Nat → Nat} {k : Nat} (h : TRow w pb n P k) (hb : But bs w w') (hn : ¬ pb ∈ bs) : TRow w' pb n P k := by
  obtain ⟨cs, h1, h2⟩ := h
  exact ⟨cs, hb.get h1 hn, h2⟩
theorem TRow.lt {w : World} {pb n : Nat} {P : Nat → Nat} {k : Nat} (h : TRow w pb n P k) : pb < w.heap.size := by
  obtain ⟨cs, h1, _⟩ := h
  exact (Array.getElem?_eq_some_iff.1 h1).1
theorem TRow.free {w : World} {pb n : Nat} {P : Nat → Nat} {k : Nat} (h : TRow w pb n P k) (j : Nat) : w.frozen? ⟨pb, j, none⟩ = false := by
  obtain ⟨cs, h1, _⟩ := h
  exact frozen_of_row w pb j cs 27 h1
theorem TRow.cell {w : World} {pb n : Nat} {P : Nat → Nat} {k : Nat} (h : TRow w pb n P k) (j : Nat) (hj : j < n) : ∃ p, w.cell? ⟨pb, j, none⟩ = some (.pointer p) := by
  obtain ⟨cs, h1, h2, h3, h4⟩ := h
  rw [cell_of_row w pb j cs 27 (0, 0) h1]
  exact h3 j hj
theorem TRow.at {w : World} {pb n : Nat} {P : Nat → Nat} {k : Nat} (h : TRow w pb n P k) (j : Nat) (hj : j < k) : w.cell? ⟨pb, j, none⟩ = some (.pointer (some ⟨P j, 0, none⟩)) := by
  obtain ⟨cs, h1, h2, h3, h4⟩ := h
  rw [cell_of_row w pb j cs 27 (0, 0) h1]
  exact h4 j hj
theorem TRow.stored {w : World} {pb n : Nat} {P : Nat → Nat} {k : Nat} (h : TRow w pb n P k) (hk : k < n) (tb : Nat) : TRow (w.setCell ⟨pb, k, none⟩ (.pointer (some ⟨tb, 0, none⟩))) pb n (fun j => if j = k then tb else P j) (k + 1) := by
  obtain ⟨cs, h1, h2, h3, h4⟩ := h
  refine ⟨cs.setIfInBounds k (.pointer (some ⟨tb, 0, none⟩)), heap_setCell_same w pb k cs 27 _ h1, by simpa using h2, fun j hj => ?_, fun j hj => ?_⟩
  · rw [Array.getElem?_setIfInBounds]
    by_cases e : k = j
    · rw [if_pos e, if_pos (by omega)]; exact ⟨_, rfl⟩
    · rw [if_neg e]; exact h3 j hj
  · rw [Array.getElem?_setIfInBounds]
    by_cases e : k = j
    · subst e; rw [if_pos rfl, if_pos (by omega)]; simp
    · rw [if_neg e, h4 j (by omega)]; simp only [if_neg (by omega : ¬ j = k)]
theorem TRow.ne_txn {w : World} {pb n : Nat} {P : Nat → Nat} {k : Nat} (h : TRow w pb n P k) {tb : Nat} {s : ByteArray} {q : Int} (ht : Txn w tb s q) : tb ≠ pb := by
  obtain ⟨cs, h1, _⟩ := h
  exact ht.ne h1 (by decide)
/-- A part of such a slice, as addAll reads it. -/
theorem TRow.reads {w : World} {pb n : Nat} {P : Nat → Nat} (h : TRow w pb n P n) (o l : Nat) (a : Option Addr) (hol : o + l ≤ n) (ha : 0 < l → a = some ⟨pb, o, none⟩) : ReadsT w a l (fun j => P (o + j)) := by
  intro j hj
  exact ⟨pb, o, ha (by omega), h.at (o + j) (by omega)⟩

theorem txnSlice_any (n : Nat) (w : World) (hn : n ≤ 131072) (P : Nat → Nat) :
    Calls Try.prog 9 #[.int .i64 n] w fun e w' => e = .returned (.slice (some ⟨w.heap.size, 0, none⟩) n n) ∧ TRow w' w.heap.size n P 0 ∧ But [] w w' := by
  obtain ⟨i, hi, hz0, hz1, hz2⟩ := info_parts info27
  go_enter Try.func9, Try.ntmps9
  go_wp2_with (at_make; refine wpList_make_full _ rfl _ _ 25 rfl w.heap.size 27 i _ 1 Try.underlying25 hi hz0 hz1 _ _ _ _ n rfl rfl rfl rfl (by rw [hz2]; omega) (by unfold maxLen; omega) (Nat.le_refl _) ?_; intro w1 hown hgr)
  go_ret
  refine ⟨rfl, ?_, But.of_grown hgr⟩
  rcases hown.2 with ⟨h', _⟩ | ⟨g', cap', cur, h', _, hg, h2, h3, h4, htake⟩
  · simp at h'
  · simp only [Value.slice.injEq, Option.some.injEq, Addr.mk.injEq, and_true, true_and] at h'
    obtain ⟨rfl, rfl⟩ := h'
    refine ⟨cur, hg, by omega, fun j hj => ⟨none, ?_⟩, fun j hj => by omega⟩
    have e0 : (Value.pointer none).cells = #[.pointer none] := rfl
    rw [e0, toList_madeCells_one, List.take_of_length_le (by simp; omega)] at htake
    rw [← Array.getElem?_toList, htake, List.getElem?_replicate, if_pos (by omega)]

theorem zzAddAll_any (xb : Nat) (L : List Ent) (a : Option Addr) (l c : Nat) (tbs : Nat → Nat) (X : Nat → ByteArray) (w : World) (hI : Idx w xb L) (hts : ReadsT w a l tbs)
    (hX : ∀ e ∈ L, ∃ q, Txn w e.tb (X e.tb) q) (hkey : ∀ e ∈ L, e.key = Ord.keyOf (X e.tb).data.toList) (hT : ∀ j, j < l → ∃ q, Txn w (tbs j) (X (tbs j)) q) (hb : L.length + l ≤ 131072) :
    Calls Try.prog 13 #[.pointer (some ⟨xb, 0, none⟩), .slice a l c] w fun e w' => e = .returned (.tuple #[]) ∧ ∃ C : List Ent, C.Perm (L ++ ents X tbs l) ∧ C.Pairwise (leX X) ∧ Idx w' xb C ∧ But [xb] w w' := by
  have H : Hid (Calls Try.prog 43 #[.pointer (some ⟨xb, 0, none⟩), .slice a l c] w fun e w' => e = .returned (.tuple #[]) ∧ ∃ C : List Ent, C.Perm (L ++ ents X tbs l) ∧ C.Pairwise (leX X) ∧ Idx w' xb C ∧ But [xb] w w') := addAll_walk xb L a l c tbs X w hI hts hX hkey hT hb
  clear hI hts hX hkey hT
  go_enter Try.func13, Try.ntmps13
  go_wp2_with fail
  refine (Calls.mono H.out) ?_
  rintro e w' ⟨rfl, hq⟩
  go_wp2_with fail
  go_end0
  exact ⟨rfl, hq⟩

/-- The xid of the transaction in a block, as it stands in w. -/
def xidIn (w : World) (tb : Nat) : ByteArray := match w.cell? ⟨tb, 2, none⟩ with
  | some (.string s) => s
  | _ => ⟨#[]⟩
theorem xidIn_of {w : World} {tb : Nat} {s : ByteArray} {q : Int} (h : Txn w tb s q) : xidIn w tb = s := by
  unfold xidIn; rw [h.xid]

theorem ents_split (X : Nat → ByteArray) (P : Nat → Nat) (a b : Nat) : ents X P (a + b) = ents X P a ++ ents X (fun j => P (a + j)) b := by
  unfold ents
  rw [List.range_add, List.map_append, List.map_map]
  rfl
theorem ents_key (X : Nat → ByteArray) (P : Nat → Nat) (n : Nat) : ∀ e ∈ ents X P n, e.key = Ord.keyOf (X e.tb).data.toList := by
  intro e he
  simp only [ents, List.mem_map, List.mem_range] at he
  obtain ⟨j, hj, rfl⟩ := he
  rfl
theorem ents_mem (X : Nat → ByteArray) (P : Nat → Nat) (n : Nat) : ∀ e ∈ ents X P n, ∃ j, j < n ∧ e.tb = P j := by
  intro e he
  simp only [ents, List.mem_map, List.mem_range] at he
  obtain ⟨j, hj, rfl⟩ := he
  exact ⟨j, hj, rfl⟩
theorem ents_get (X : Nat → ByteArray) (P : Nat → Nat) (n i : Nat) (h : i < n) : (ents X P n)[i]? = some (entOf X (P i)) := by
  simp [ents, h]

/-- The xids of an index's entries are those of its transactions, in byte order. -/
theorem xids_sorted (X : Nat → ByteArray) (C : List Ent) (h : C.Pairwise (leX X)) : (C.map (fun e => (X e.tb).data.toList)).Pairwise Ord.le := by
  rw [List.pairwise_map]; exact h
theorem xids_perm (X : Nat → ByteArray) (C : List Ent) (P : Nat → Nat) (S : Nat → ByteArray) (n : Nat) (h : C.Perm (ents X P n)) (hS : ∀ j, j < n → X (P j) = S j) : (C.map (fun e => (X e.tb).data.toList)).Perm ((List.range n).map (fun j => (S j).data.toList)) := by
  refine (h.map _).trans ?_
  unfold ents
  rw [List.map_map]
  have e : (List.range n).map ((fun e : Ent => (X e.tb).data.toList) ∘ fun j => entOf X (P j)) = (List.range n).map (fun j => (S j).data.toList) := by
    refine List.map_congr_left (fun j hj => ?_)
    show (X (P j)).data.toList = _
    rw [hS j (List.mem_range.1 hj)]
  rw [e]

theorem bytes_ext {a b : ByteArray} (h : a.data.toList = b.data.toList) : a = b := by
  obtain ⟨x⟩ := a
  obtain ⟨y⟩ := b
  have : x = y := Array.toList_inj.1 h
  rw [this]

end Go.Proofs.Qxb6616291a
