import Derived.Test.Qxb6616301aFmtGet
namespace Go.Proofs.Qxb6616301aFmt
open Go.RowKit Go.Extern.Stop Go.Stop Go.Extern

/-- A new table: block tb, its empty map in block mb. -/
def NewTab (w w' : World) (tb mb fb : Nat) (line : Int) (path : ByteArray) : Prop :=
  ∃ name, Tab w' tb line path name (.slice none 0 0) mb fb ∧ w'.heap[mb]? = some (.map #[] 0) ∧ w.heap.size ≤ tb ∧ w.heap.size ≤ mb ∧ tb ≠ mb ∧ But [] w w'
theorem newTab_made (w : World) (fb : Nat) (line : Int) (path name : ByteArray) :
    NewTab w ((w.alloc (.map #[] 0)).alloc (.cells #[.int .i64 line, .string path, .string name, .slice none 0 0, .map (some w.heap.size), .pointer (some ⟨fb, 0, none⟩)] 55)) (w.heap.size + 1) w.heap.size fb line path := by
  have e1 : (w.alloc (.map #[] 0)).heap.size = w.heap.size + 1 := by simp
  have hn := heap_alloc_new (w.alloc (.map #[] 0)) (.cells #[.int .i64 line, .string path, .string name, .slice none 0 0, .map (some w.heap.size), .pointer (some ⟨fb, 0, none⟩)] 55)
  rw [e1] at hn
  refine ⟨name, hn, ?_, by omega, Nat.le_refl _, by omega, ((But.refl [] w).alloc _).alloc _⟩
  rw [Below.heap_alloc _ _ _ (by rw [e1]; omega)]
  exact heap_alloc_new w _

set_option maxHeartbeats 800000 in
theorem newTable17 (fb : Nat) (path : ByteArray) (line : Int) (b : Bool) (w : World) (_hp : path.size ≤ 1000000) :
    Calls Tryf.prog 17 #[.pointer (some ⟨fb, 0, none⟩), .string path, .int .i64 line, .bool b] w fun e w' => ∃ tb mb, e = .returned (.pointer (some ⟨tb, 0, none⟩)) ∧ NewTab w w' tb mb fb line path := by
  have hmm := @run_makeMap Tryf.prog
  cases b
  · go_enter Tryf.func17, Tryf.ntmps17
    go_wp2_with fail
    all_goals
      go_ret
      exact ⟨_, _, rfl, newTab_made w fb line _ _⟩
  · go_enter Tryf.func17, Tryf.ntmps17
    go_wp2_with fail
    all_goals
      go_ret
      exact ⟨_, _, rfl, newTab_made w fb line _ _⟩
theorem newTable_any (fb : Nat) (path : ByteArray) (line : Int) (b : Bool) (w : World) (hp : path.size ≤ 1000000) :
    Calls Tryf.prog 7 #[.pointer (some ⟨fb, 0, none⟩), .string path, .int .i64 line, .bool b] w fun e w' => ∃ tb mb, e = .returned (.pointer (some ⟨tb, 0, none⟩)) ∧ NewTab w w' tb mb fb line path := by
  have H : Hid (Calls Tryf.prog 17 #[.pointer (some ⟨fb, 0, none⟩), .string path, .int .i64 line, .bool b] w fun e w' => ∃ tb mb, e = .returned (.pointer (some ⟨tb, 0, none⟩)) ∧ NewTab w w' tb mb fb line path) := newTable17 fb path line b w hp
  go_enter Tryf.func7, Tryf.ntmps7
  go_wp2_with fail
  refine (Calls.mono H.out) ?_
  rintro e w' ⟨tb, mb, rfl, h⟩
  go_wp2_with fail
  go_ret
  exact ⟨tb, mb, rfl, h⟩
theorem newFile_any (path : ByteArray) (w : World) :
    Calls Tryf.prog 6 #[.string path, .slice none 0 0] w fun e w' => ∃ fb, e = .returned (.pointer (some ⟨fb, 0, none⟩)) ∧ File w' fb path none ∧ w.heap.size ≤ fb ∧ But [] w w' := by
  go_enter Tryf.func6, Tryf.ntmps6
  go_wp2_with fail
  go_ret
  exact ⟨_, rfl, heap_alloc_new w _, Nat.le_refl _, (But.refl _ _).alloc _⟩
theorem child_any (tb : Nat) (line : Int) (path name : ByteArray) (keys : Value) (mb fb : Nat) (key : ByteArray) (w : World) (hT : Tab w tb line path name keys mb fb) (_hp : path.size ≤ 300000) (_hk : key.size ≤ 300000) :
    Calls Tryf.prog 20 #[.pointer (some ⟨tb, 0, none⟩), .string key] w fun e w' => (∃ s : ByteArray, s.size ≤ 1000000 ∧ e = .returned (.string s)) ∧ w = w' := by
  obtain ⟨h0, h1, h2, h3, h4, h5⟩ := hT.cells
  go_enter Tryf.func20, Tryf.ntmps20
  go_wp2_with fail
  all_goals
    go_ret
    refine ⟨⟨_, ?_, rfl⟩, rfl⟩
    first
      | omega
      | (have e : (⟨#[46]⟩ : ByteArray).size = 1 := rfl; simp [ByteArray.size_append, e]; omega)

end Go.Proofs.Qxb6616301aFmt
