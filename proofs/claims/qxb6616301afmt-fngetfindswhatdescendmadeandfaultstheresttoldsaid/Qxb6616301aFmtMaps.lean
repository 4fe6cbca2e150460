import Derived.Test.Qxb6616301aFmtFail
import Derived.WideMake
/-! A table's map of at most one entry. -/
namespace Go.Proofs.Qxb6616301aFmt
open Go.RowKit Go.Extern.Stop Go.Stop Go.Extern

theorem zero28 (w : World) : (zeroValue 28).run Tryf.prog w = .ok (.pointer none) w := by kernel_rfl
theorem look_empty (mb c : Nat) (s : ByteArray) (w : World) (h : w.heap[mb]? = some (.map #[] c)) : (Instr.lookup 53 (.map (some mb)) (.string s) false).run Tryf.prog w = .ok (.pointer none) w := by
  have hc : ∀ b, (Instr.checkKey b 10000 9 (.string s)).run Tryf.prog w = .ok () w := fun b => MapKept.run_checkKey (k := .string s) Tryf.underlying9 (by simp [MapKept.IsKey]) b 9999
  have hf : Instr.findNow .string (.string s) ([] : List MapEntry) 0 = some none := rfl
  simp [Instr.lookup, run_underlying Tryf.underlying53, MapKept.run_getObj_map h, hc, MapKept.run_findKey Tryf.underlying9 hf, Result.andThen]
theorem look_hit (mb c b : Nat) (s : ByteArray) (v : Value) (w : World) (h : w.heap[mb]? = some (.map #[{ key := .string s, val := v, born := b }] c)) : (Instr.lookup 53 (.map (some mb)) (.string s) false).run Tryf.prog w = .ok v w := by
  have hc : ∀ b, (Instr.checkKey b 10000 9 (.string s)).run Tryf.prog w = .ok () w := fun b => MapKept.run_checkKey (k := .string s) Tryf.underlying9 (by simp [MapKept.IsKey]) b 9999
  have hf : Instr.findNow .string (.string s) [{ key := .string s, val := v, born := b }] 0 = some (some (0, v)) := by
    rcases MapKept.findNow_spec (d := .string) (k := .string s) (by simp [MapKept.IsKey]) [{ key := .string s, val := v, born := b }] 0 (by simp [MapKept.IsKey]) with ⟨_, h2⟩ | ⟨j, e, h1, h2, _⟩
    · exact absurd rfl (h2 _ (List.mem_singleton.2 rfl))
    · rcases j with _ | j
      · simp at h2; rw [h1, ← h2]
      · simp at h2
  simp [Instr.lookup, run_underlying Tryf.underlying53, MapKept.run_getObj_map h, hc, MapKept.run_findKey Tryf.underlying9 hf, Result.andThen]
theorem look_miss (mb c b : Nat) (s k : ByteArray) (v : Value) (w : World) (h : w.heap[mb]? = some (.map #[{ key := .string k, val := v, born := b }] c)) (hne : ¬ s = k) : (Instr.lookup 53 (.map (some mb)) (.string s) false).run Tryf.prog w = .ok (.pointer none) w := by
  have hc : ∀ b, (Instr.checkKey b 10000 9 (.string s)).run Tryf.prog w = .ok () w := fun b => MapKept.run_checkKey (k := .string s) Tryf.underlying9 (by simp [MapKept.IsKey]) b 9999
  have hf : Instr.findNow .string (.string s) [{ key := .string k, val := v, born := b }] 0 = some none := by
    rcases MapKept.findNow_spec (d := .string) (k := .string s) (by simp [MapKept.IsKey]) [{ key := .string k, val := v, born := b }] 0 (by simp [MapKept.IsKey]) with ⟨h1, _⟩ | ⟨j, e, _, h2, h3⟩
    · exact h1
    · rcases j with _ | j
      · simp at h2; rw [← h2] at h3; simp at h3; exact absurd h3.symm hne
      · simp at h2
  simp [Instr.lookup, run_underlying Tryf.underlying53, MapKept.run_getObj_map h, hc, MapKept.run_findKey Tryf.underlying9 hf, Result.andThen]

/-- Block tb is a table. -/
def Tab (w : World) (tb : Nat) (line : Int) (path name : ByteArray) (keys : Value) (mb fb : Nat) : Prop :=
  w.heap[tb]? = some (.cells #[.int .i64 line, .string path, .string name, keys, .map (some mb), .pointer (some ⟨fb, 0, none⟩)] 55 (0, 0))

end Go.Proofs.Qxb6616301aFmt
