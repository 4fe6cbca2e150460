import Derived.Test.Qxb6616301aFmtMem
/-! A file's first fault. -/
namespace Go.Proofs.Qxb6616301aFmt
open Go.RowKit Go.Extern.Stop Go.Stop Go.Extern

/-- Block fb is a file of this path, whose fault is ep. -/
def File (w : World) (fb : Nat) (path : ByteArray) (ep : Option Addr) : Prop := w.heap[fb]? = some (.cells #[.string path, .slice none 0 0, .pointer ep] 43 (0, 0))

/-- The fault in block eb. -/
def Fault (w : World) (eb : Nat) (path : ByteArray) (line : Int) : Prop := ∃ msg, w.heap[eb]? = some (.cells #[.string path, .int .i64 line, .string msg] 35 (0, 0))
/-- The file has got its first fault. -/
def Faulted (w w' : World) (fb : Nat) (path : ByteArray) (line : Int) : Prop := ∃ eb, w.heap.size ≤ eb ∧ File w' fb path (some ⟨eb, 0, none⟩) ∧ Fault w' eb path line ∧ But [fb] w w'

theorem faulted_made {w : World} {fb : Nat} {path : ByteArray} (h : File w fb path none) (line : Int) (msg : ByteArray) (n : Nat) :
    Faulted w (((w.setCell ⟨fb, 2, none⟩ (.pointer (some ⟨w.heap.size, 0, none⟩))).alloc (.cells #[.string path, .int .i64 line, .string msg] 35)).drewN n) fb path line := by
  have hlt : fb < w.heap.size := (Array.getElem?_eq_some_iff.1 h).1
  have hs : (w.setCell ⟨fb, 2, none⟩ (.pointer (some ⟨w.heap.size, 0, none⟩))).heap.size = w.heap.size := by simp [World.setCell]
  have h1 := heap_setCell_same w fb 2 _ 43 (.pointer (some ⟨w.heap.size, 0, none⟩)) h
  refine ⟨w.heap.size, Nat.le_refl _, ?_, ⟨msg, ?_⟩, (((But.refl [fb] w).setCell (by simp) _).alloc _).drewN n⟩
  · show ((w.setCell ⟨fb, 2, none⟩ (.pointer (some ⟨w.heap.size, 0, none⟩))).alloc _).heap[fb]? = _
    rw [Below.heap_alloc _ _ _ (by rw [hs]; exact hlt), h1]
    rfl
  · have := heap_alloc_new (w.setCell ⟨fb, 2, none⟩ (.pointer (some ⟨w.heap.size, 0, none⟩))) (.cells #[.string path, .int .i64 line, .string msg] 35)
    rw [hs] at this
    exact this

theorem fail_some (fb : Nat) (path : ByteArray) (a : Addr) (line : Int) (fm : ByteArray) (v : Value) (w : World) (h : File w fb path (some a)) :
    Calls Tryf.prog 22 #[.pointer (some ⟨fb, 0, none⟩), .int .i64 line, .string fm, v] w fun e w' => e = .returned (.tuple #[]) ∧ w = w' := by
  have hc := cell_of_row w fb 2 _ 43 (0, 0) h
  simp only [List.getElem?_toArray, List.getElem?_cons_succ, List.getElem?_cons_zero] at hc
  go_enter Tryf.func22, Tryf.ntmps22
  go_wp2_with fail
  go_end0
  exact ⟨rfl, rfl⟩

set_option maxHeartbeats 800000 in
theorem fail_none (F : Interp) (fb : Nat) (path : ByteArray) (line : Int) (x y : ByteArray) (vb : Nat) (w : World) (h : File w fb path none) (hF : F.answers w.tape)
    (hc0 : w.cell? ⟨vb, 0, none⟩ = some (.iface 9 (.string x))) (hc1 : w.cell? ⟨vb, 1, none⟩ = some (.iface 9 (.string y))) :
    Calls Tryf.prog 22 #[.pointer (some ⟨fb, 0, none⟩), .int .i64 line, .string ⟨#[37, 115, 32, 104, 97, 115, 32, 110, 111, 32, 37, 115]⟩, .slice (some ⟨vb, 0, none⟩) 2 2] w fun e w' => e = .returned (.tuple #[]) ∧ Faulted w w' fb path line := by
  have hp := cell_of_row w fb 0 _ 43 (0, 0) h
  have hc := cell_of_row w fb 2 _ 43 (0, 0) h
  simp only [List.getElem?_toArray, List.getElem?_cons_succ, List.getElem?_cons_zero] at hc hp
  have hF' := answers_open hF
  have hfz := frozen_of_row w fb 2 _ 43 h
  have hlt : fb < w.heap.size := World.block_lt_of_cell? w _ hc
  have hlt1 : fb < w.heap.size + 1 := by omega
  have hne : ¬ w.heap.size = fb := by omega
  have hne' : ¬ fb = w.heap.size := by omega
  go_enter Tryf.func22, Tryf.ntmps22
  go_upto_region 1 with fail

  go_region_with (apply rows_value Tryf.nextTurns; (case hr => go_simp; exact ⟨rfl, rfl⟩))
  all_goals
    go_wp2_with fail
    go_end0
    exact ⟨rfl, faulted_made h line _ 2⟩

end Go.Proofs.Qxb6616301aFmt
