import Derived.Test.Qxb6616301aFmtRows
import Derived.Test.Qxb6616301aFmtFacts
import Derived.Deep.DeepCutAuto
import Derived.LaidEqlPtr
import Derived.Deep.RegionWith
import Derived.Deep.RegionLaw
import Derived.WalkKit
import Derived.ProofKit
import Derived.OpenShut
import Derived.BigQuiet
import Derived.Deep.QuietTactic
import Derived.WalkSpells
import Derived.WalkLawsBesides
import Derived.WalkSmall
import Derived.Lib.SliceRun
/-! MEMORY: what a call may have turned. -/
namespace Go.Proofs.Qxb6616301aFmt
open Go.RowKit

/-- But the blocks bs, w' is w as far as w goes; blocks may have been laid behind. -/
structure But (bs : List Nat) (w w' : World) : Prop where
  os : w'.os = w.os
  tape : w'.tape = w.tape
  output : w'.output = w.output
  size : w.heap.size ≤ w'.heap.size
  block : ∀ k, k < w.heap.size → ¬ k ∈ bs → w'.heap[k]? = w.heap[k]?

theorem But.refl (bs : List Nat) (w : World) : But bs w w := ⟨rfl, rfl, rfl, Nat.le_refl _, fun _ _ _ => rfl⟩
theorem But.trans {bs : List Nat} {a b c : World} (h : But bs a b) (k : But bs b c) : But bs a c :=
  ⟨k.os.trans h.os, k.tape.trans h.tape, k.output.trans h.output, Nat.le_trans h.size k.size, fun i hi hn => (k.block i (Nat.lt_of_lt_of_le hi h.size) hn).trans (h.block i hi hn)⟩
theorem But.mono {bs bs' : List Nat} {a b : World} (h : But bs a b) (hs : ∀ x ∈ bs, x ∈ bs') : But bs' a b :=
  ⟨h.os, h.tape, h.output, h.size, fun i hi hn => h.block i hi (fun hm => hn (hs i hm))⟩
theorem But.of_below {w w' : World} (h : Below w.heap.size w w') : But [] w w' := ⟨h.os, h.tape, h.output, h.size, fun k hk _ => h.block k hk⟩
theorem But.below {bs : List Nat} {w w' : World} (h : But bs w w') {B : Nat} (hB : B ≤ w.heap.size) (hb : ∀ x ∈ bs, B ≤ x) : Below B w w' :=
  ⟨h.os, h.tape, h.output, h.size, fun k hk => h.block k (Nat.lt_of_lt_of_le hk hB) (fun hm => by have := hb k hm; omega)⟩
theorem But.of_grown {w w' : World} (h : w.grownBy w' none) : But [] w w' := ⟨h.os, h.tape, h.output, h.size, fun k hk _ => h.block k hk (by simp)⟩
theorem But.of_grown_some {w w' : World} {g : Nat} (h : w.grownBy w' (some g)) : But [g] w w' := ⟨h.os, h.tape, h.output, h.size, fun k hk hn => h.block k hk (by simpa using hn)⟩
theorem But.drewN {bs : List Nat} {a w : World} (h : But bs a w) (n : Nat) : But bs a (w.drewN n) := h.trans ⟨rfl, rfl, rfl, Nat.le_refl _, fun _ _ _ => rfl⟩
theorem But.drew {bs : List Nat} {a w : World} (h : But bs a w) : But bs a w.drew := h.trans ⟨rfl, rfl, rfl, Nat.le_refl _, fun _ _ _ => rfl⟩
theorem But.alloc {bs : List Nat} {a w : World} (h : But bs a w) (o : Obj) : But bs a (w.alloc o) :=
  h.trans ⟨rfl, rfl, rfl, by simp, fun k hk _ => Below.heap_alloc _ _ _ hk⟩
theorem But.setCell {bs : List Nat} {a w : World} (h : But bs a w) {p : Addr} (hp : p.block ∈ bs) (u : Value) : But bs a (w.setCell p u) :=
  h.trans ⟨rfl, rfl, rfl, by simp [World.setCell], fun k _ hn => Below.heap_setCell _ _ _ _ (fun e => hn (e ▸ hp))⟩
theorem But.get {bs : List Nat} {w w' : World} (h : But bs w w') {k : Nat} {o : Obj} (hk : w.heap[k]? = some o) (hn : ¬ k ∈ bs) : w'.heap[k]? = some o := by
  rw [h.block k (Array.getElem?_eq_some_iff.1 hk).1 hn]; exact hk
theorem But.cell {bs : List Nat} {w w' : World} (h : But bs w w') {b o : Nat} {v : Value} (hc : w.cell? ⟨b, o, none⟩ = some v) (hn : ¬ b ∈ bs) : w'.cell? ⟨b, o, none⟩ = some v :=
  (World.cell?_of_block (w := w) (a := ⟨b, o, none⟩) (h.block b (World.block_lt_of_cell? w _ hc) hn)).trans hc
/-- What lies behind the first world's heap may turn. -/
theorem But.own {bs : List Nat} {a b c : World} (h : But bs a b) {cs : List Nat} (k : But cs b c) (hcs : ∀ x ∈ cs, x ∈ bs ∨ a.heap.size ≤ x) : But bs a c :=
  ⟨k.os.trans h.os, k.tape.trans h.tape, k.output.trans h.output, Nat.le_trans h.size k.size, fun i hi hn => (k.block i (Nat.lt_of_lt_of_le hi h.size) (fun hm => by rcases hcs i hm with h1 | h1; exact hn h1; omega)).trans (h.block i hi hn)⟩

theorem cell_past {w : World} {b o : Nat} {v : Value} (x : Obj) (h : w.cell? ⟨b, o, none⟩ = some v) : (w.alloc x).cell? ⟨b, o, none⟩ = some v :=
  (World.cell?_of_block (w := w) (a := ⟨b, o, none⟩) (Below.heap_alloc _ _ _ (World.block_lt_of_cell? w _ h))).trans h

end Go.Proofs.Qxb6616301aFmt
