import Derived.Test.Qxb6616288aRows
import Derived.Test.Qxb6616288aLinkPlain
import Derived.WalkKit
import Derived.ProofKit
import Derived.OpenShut
import Derived.BigQuiet
import Derived.Deep.QuietTactic
/-! MEMORY: an index of n slots as it lies in a block; what a call may have turned. -/
namespace Go.Proofs.Qxb6616288a.Lnk
open Go.RowKit

/-- But the blocks bs, w' is w as far as w goes; blocks may have been laid behind. -/
structure But (bs : List Nat) (w w' : World) : Prop where
  os : w'.os = w.os
  tape : w'.tape = w.tape
  output : w'.output = w.output
  size : w.heap.size ≤ w'.heap.size
  block : ∀ k, k < w.heap.size → ¬ k ∈ bs → w'.heap[k]? = w.heap[k]?

theorem But.refl (bs : List Nat) (w : World) : But bs w w := ⟨rfl, rfl, rfl, Nat.le_refl _, fun _ _ _ => rfl⟩
theorem But.trans {bs : List Nat} {a b c : World} (h : But bs a b) (k : But bs b c) : But bs a c :=
  ⟨k.os.trans h.os, k.tape.trans h.tape, k.output.trans h.output, Nat.le_trans h.size k.size, fun i hi hn => (k.block i (Nat.lt_of_lt_of_le hi h.size) hn).trans (h.block i hi hn)⟩
theorem But.mono {bs bs' : List Nat} {a b : World} (h : But bs a b) (hs : ∀ x ∈ bs, x ∈ bs') : But bs' a b :=
  ⟨h.os, h.tape, h.output, h.size, fun i hi hn => h.block i hi (fun hm => hn (hs i hm))⟩
theorem But.of_below {w w' : World} (h : Below w.heap.size w w') : But [] w w' := ⟨h.os, h.tape, h.output, h.size, fun k hk _ => h.block k hk⟩
theorem But.below {bs : List Nat} {w w' : World} (h : But bs w w') {B : Nat} (hB : B ≤ w.heap.size) (hb : ∀ x ∈ bs, B ≤ x) : Below B w w' :=
  ⟨h.os, h.tape, h.output, h.size, fun k hk => h.block k (Nat.lt_of_lt_of_le hk hB) (fun hm => by have := hb k hm; omega)⟩
theorem But.drewN {bs : List Nat} {a w : World} (h : But bs a w) (n : Nat) : But bs a (w.drewN n) := h.trans ⟨rfl, rfl, rfl, Nat.le_refl _, fun _ _ _ => rfl⟩
theorem But.drew {bs : List Nat} {a w : World} (h : But bs a w) : But bs a w.drew := h.trans ⟨rfl, rfl, rfl, Nat.le_refl _, fun _ _ _ => rfl⟩
theorem But.alloc {bs : List Nat} {a w : World} (h : But bs a w) (o : Obj) : But bs a (w.alloc o) :=
  h.trans ⟨rfl, rfl, rfl, by simp, fun k hk _ => Below.heap_alloc _ _ _ hk⟩
theorem But.setCell {bs : List Nat} {a w : World} (h : But bs a w) {p : Addr} (hp : p.block ∈ bs) (u : Value) : But bs a (w.setCell p u) :=
  h.trans ⟨rfl, rfl, rfl, by simp [World.setCell], fun k _ hn => Below.heap_setCell _ _ _ _ (fun e => hn (e ▸ hp))⟩
theorem But.get {bs : List Nat} {w w' : World} (h : But bs w w') {k : Nat} {o : Obj} (hk : w.heap[k]? = some o) (hn : ¬ k ∈ bs) : w'.heap[k]? = some o := by
  rw [h.block k (Array.getElem?_eq_some_iff.1 hk).1 hn]; exact hk
theorem But.cell {bs : List Nat} {w w' : World} (h : But bs w w') {b o : Nat} {v : Value} (hc : w.cell? ⟨b, o, none⟩ = some v) (hn : ¬ b ∈ bs) : w'.cell? ⟨b, o, none⟩ = some v :=
  (World.cell?_of_block (w := w) (a := ⟨b, o, none⟩) (h.block b (World.block_lt_of_cell? w _ hc) hn)).trans hc

/-- Block b holds an index of n slots: slot i reads T i, least byte first. -/
def Tab (w : World) (b n : Nat) (T : Nat → Int) : Prop :=
  ∃ cs : Array Value, w.heap[b]? = some (.cells cs 5 (0, 0)) ∧ cs.size = 8 * n ∧ ∀ i, i < n → ∀ j, j < 8 → cs[8 * i + j]? = some (.int .u8 (byteOf (T i) j))

theorem Tab.cell {w : World} {b n : Nat} {T : Nat → Int} (h : Tab w b n T) (i : Nat) (hi : i < n) (j : Nat) (hj : j < 8) : w.cell? ⟨b, 8 * i + j, none⟩ = some (.int .u8 (byteOf (T i) j)) := by
  obtain ⟨cs, h1, h2, h3⟩ := h
  rw [cell_of_row w b (8 * i + j) cs 5 (0, 0) h1]
  exact h3 i hi j hj
theorem Tab.free {w : World} {b n : Nat} {T : Nat → Int} (h : Tab w b n T) (j : Nat) : w.frozen? ⟨b, j, none⟩ = false := by
  obtain ⟨cs, h1, h2, h3⟩ := h
  exact frozen_of_row w b j cs 5 h1
theorem Tab.lt {w : World} {b n : Nat} {T : Nat → Int} (h : Tab w b n T) : b < w.heap.size := by
  obtain ⟨cs, h1, h2, h3⟩ := h
  exact (Array.getElem?_eq_some_iff.1 h1).1
theorem Tab.kept {bs : List Nat} {w w' : World} {b n : Nat} {T : Nat → Int} (h : Tab w b n T) (hb : But bs w w') (hn : ¬ b ∈ bs) : Tab w' b n T := by
  obtain ⟨cs, h1, h2, h3⟩ := h
  exact ⟨cs, hb.get h1 hn, h2, h3⟩

theorem Tab.made {w : World} {b n : Nat} {base cap : Nat} (h : w.ownsRow base 5 1 (.slice (some ⟨b, 0, none⟩) (8 * n) (8 * n)) (8 * n) (madeCells #[.int .u8 0] cap).toList) (hc : cap = 8 * n) : Tab w b n (fun _ => 0) := by
  subst hc
  rcases h.2 with ⟨h', _⟩ | ⟨g', cap', cur, h', _, hg, h2, h3, h4, htake⟩
  · simp at h'
  · simp only [Value.slice.injEq, Option.some.injEq, Addr.mk.injEq, and_true, true_and] at h'
    obtain ⟨rfl, rfl⟩ := h'
    refine ⟨cur, hg, by omega, fun i hi j hj => ?_⟩
    rw [toList_madeCells_one, List.take_of_length_le (by simp; omega)] at htake
    rw [← Array.getElem?_toList, htake, List.getElem?_replicate, if_pos (by omega), byteOf_zero]

/-- One slot written: byte by byte, m bytes so far. -/
def PartTab (w : World) (b n : Nat) (T : Nat → Int) (i : Nat) (v : Int) (m : Nat) : Prop :=
  ∃ cs : Array Value, w.heap[b]? = some (.cells cs 5 (0, 0)) ∧ cs.size = 8 * n ∧ ∀ i', i' < n → ∀ j, j < 8 → cs[8 * i' + j]? = some (.int .u8 (if i' = i ∧ j < m then byteOf v j else byteOf (T i') j))

theorem Tab.part {w : World} {b n : Nat} {T : Nat → Int} (h : Tab w b n T) (i : Nat) (v : Int) : PartTab w b n T i v 0 := by
  obtain ⟨cs, h1, h2, h3⟩ := h
  exact ⟨cs, h1, h2, fun i' hi j hj => by rw [h3 i' hi j hj]; simp⟩
theorem PartTab.free {w : World} {b n : Nat} {T : Nat → Int} {i : Nat} {v : Int} {m : Nat} (h : PartTab w b n T i v m) (j : Nat) : w.frozen? ⟨b, j, none⟩ = false := by
  obtain ⟨cs, h1, h2, h3⟩ := h
  exact frozen_of_row w b j cs 5 h1
theorem PartTab.cell {w : World} {b n : Nat} {T : Nat → Int} {i : Nat} {v : Int} {m : Nat} (h : PartTab w b n T i v m) (j : Nat) (hi : i < n) (hj : j < 8) : ∃ z, w.cell? ⟨b, 8 * i + j, none⟩ = some (.int .u8 z) := by
  obtain ⟨cs, h1, h2, h3⟩ := h
  rw [cell_of_row w b (8 * i + j) cs 5 (0, 0) h1]
  exact ⟨_, h3 i hi j hj⟩
theorem PartTab.step {w : World} {b n : Nat} {T : Nat → Int} {i : Nat} {v : Int} {m : Nat} (h : PartTab w b n T i v m) (hi : i < n) (hm : m < 8) : PartTab (w.setCell ⟨b, 8 * i + m, none⟩ (.int .u8 (byteOf v m))) b n T i v (m + 1) := by
  obtain ⟨cs, h1, h2, h3⟩ := h
  refine ⟨cs.setIfInBounds (8 * i + m) (.int .u8 (byteOf v m)), heap_setCell_same w b (8 * i + m) cs 5 _ h1, by simpa using h2, fun i' hi' j hj => ?_⟩
  rw [Array.getElem?_setIfInBounds]
  by_cases e : 8 * i + m = 8 * i' + j
  · have e1 : i' = i := by omega
    have e2 : j = m := by omega
    subst e1 e2
    rw [if_pos rfl, if_pos (by omega)]
    simp
  · rw [if_neg e, h3 i' hi' j hj]
    by_cases c : i' = i ∧ j < m
    · rw [if_pos c, if_pos ⟨c.1, by omega⟩]
    · rw [if_neg c, if_neg (by omega)]
theorem PartTab.done {w : World} {b n : Nat} {T : Nat → Int} {i : Nat} {v : Int} (h : PartTab w b n T i v 8) : Tab w b n (fun k => if k = i then v else T k) := by
  obtain ⟨cs, h1, h2, h3⟩ := h
  refine ⟨cs, h1, h2, fun i' hi' j hj => ?_⟩
  rw [h3 i' hi' j hj]
  by_cases c : i' = i
  · simp [c, hj]
  · simp [c]

end Go.Proofs.Qxb6616288a.Lnk
