import Derived.Test.Qxb6616291aLeaf
import Derived.SliceStrings
import Derived.ProofKit
/-! A slice of strings among the arguments, as the walks read it. -/
namespace Go.Proofs.Qxb6616291a
open Go.ChangeShapes Go.WideShapes Go.RowKit

theorem readsS_of {H : Type} {enc : TypeId × Value → H} {W : World} {base : Nat} {held : Bool} {a : Option Addr} {len cap : Nat} {d : DataW H} {p : List MemPlace}
    (h : DataW.Trod enc Try.prog W base (fun _ => true) held 22 (.slice a len cap) d p) :
    ∃ S : Nat → ByteArray, ReadsS W a len S ∧ len ≤ 9223372036854775807 ∧ ∀ j, j < len → (S j).size ≤ 9223372036854775807 := by
  obtain ⟨fuel, hf⟩ := h
  rcases open_strings Try.underlying22 Try.underlying9 (by kernel_rfl) hf with ⟨hcs, _⟩ | ⟨x, l, c, ss, hcs, _, hl, hm, hz, _, hcell, hws⟩
  · simp [Value.cells] at hcs
    obtain ⟨rfl, rfl, rfl⟩ := hcs
    exact ⟨fun _ => ByteArray.empty, fun j hj => by omega, by omega, fun j hj => by omega⟩
  · simp [Value.cells] at hcs
    obtain ⟨rfl, rfl, rfl⟩ := hcs
    simp only [if_true] at hz
    obtain ⟨b, o, spot⟩ := x
    refine ⟨fun j => ss.getD j ByteArray.empty, fun j hj => ?_, by unfold maxLen at hm; omega, fun j hj => ?_⟩
    · have hc := hcell j (by omega)
      have hspot : spot = none := by simpa [Addr.add] using World.cell?_spot (hcell 0 (by omega))
      subst hspot
      rw [add_plain] at hc
      exact ⟨b, o, rfl, hc⟩
    · have hj' : j < ss.length := by omega
      have := hws (ss.getD j ByteArray.empty) (by rw [List.getD, List.getElem?_eq_getElem hj']; exact List.getElem_mem hj')
      unfold maxLen at this
      exact Nat.le_trans this (by omega)

end Go.Proofs.Qxb6616291a
