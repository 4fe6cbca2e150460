import Derived.Test.Qxb6616301aFmtMaps
namespace Go.Proofs.Qxb6616301aFmt
open Go.RowKit Go.Extern.Stop Go.Stop Go.Extern

theorem Tab.cells {w : World} {tb : Nat} {line : Int} {path name : ByteArray} {keys : Value} {mb fb : Nat} (h : Tab w tb line path name keys mb fb) :
    w.cell? ⟨tb, 0, none⟩ = some (.int .i64 line) ∧ w.cell? ⟨tb, 1, none⟩ = some (.string path) ∧ w.cell? ⟨tb, 2, none⟩ = some (.string name) ∧ w.cell? ⟨tb, 3, none⟩ = some keys ∧ w.cell? ⟨tb, 4, none⟩ = some (.map (some mb)) ∧ w.cell? ⟨tb, 5, none⟩ = some (.pointer (some ⟨fb, 0, none⟩)) := by
  refine ⟨?_, ?_, ?_, ?_, ?_, ?_⟩ <;> (rw [cell_of_row w tb _ _ 55 (0, 0) h]; rfl)

theorem File.kept {bs : List Nat} {w w' : World} {fb : Nat} {path : ByteArray} {ep : Option Addr} (h : File w fb path ep) (hb : But bs w w') (hn : ¬ fb ∈ bs) : File w' fb path ep := hb.get h hn
theorem Tab.kept {bs : List Nat} {w w' : World} {tb : Nat} {line : Int} {path name : ByteArray} {keys : Value} {mb fb : Nat} (h : Tab w tb line path name keys mb fb) (hb : But bs w w') (hn : ¬ tb ∈ bs) : Tab w' tb line path name keys mb fb := hb.get h hn
theorem Fault.kept {bs : List Nat} {w w' : World} {eb : Nat} {path : ByteArray} {line : Int} (h : Fault w eb path line) (hb : But bs w w') (hn : ¬ eb ∈ bs) : Fault w' eb path line := by
  obtain ⟨m, h⟩ := h
  exact ⟨m, hb.get h hn⟩
theorem Faulted.after {w w1 w' : World} {fb : Nat} {path : ByteArray} {line : Int} (hb : But [] w w1) (h : Faulted w1 w' fb path line) : Faulted w w' fb path line := by
  obtain ⟨eb, h1, h2, h3, h4⟩ := h
  exact ⟨eb, Nat.le_trans hb.size h1, h2, h3, (hb.mono (by simp)).trans h4⟩
/-- The call of fail that get makes. -/
theorem fail_at (F : Interp) (fb : Nat) (fpath : ByteArray) (line : Int) (x y : ByteArray) (w : World) (h : File w fb fpath none) (hF : F.answers w.tape) :
    Calls Tryf.prog 22 #[.pointer (some ⟨fb, 0, none⟩), .int .i64 line, .string ⟨#[37, 115, 32, 104, 97, 115, 32, 110, 111, 32, 37, 115]⟩, .slice (some ⟨w.heap.size, 0, none⟩) 2 2] (w.alloc (.cells #[.iface 9 (.string x), .iface 9 (.string y)] 20)).drew fun e w' => e = .returned (.tuple #[]) ∧ Faulted w w' fb fpath line := by
  have hb : But [] w (w.alloc (.cells #[.iface 9 (.string x), .iface 9 (.string y)] 20)).drew := ((But.refl _ _).alloc _).drew
  have hn : (w.alloc (.cells #[.iface 9 (.string x), .iface 9 (.string y)] 20)).drew.heap[w.heap.size]? = some (.cells #[.iface 9 (.string x), .iface 9 (.string y)] 20 (0, 0)) := heap_alloc_new w _
  refine (fail_none F fb fpath line x y w.heap.size _ (h.kept hb (by simp)) hF (by rw [cell_of_row _ _ 0 _ 20 (0, 0) hn]; rfl) (by rw [cell_of_row _ _ 1 _ 20 (0, 0) hn]; rfl)).mono ?_
  rintro e w' ⟨rfl, hq⟩
  exact ⟨rfl, hq.after hb⟩

theorem get_hit (tb : Nat) (line : Int) (path name : ByteArray) (keys : Value) (mb fb : Nat) (key shown : ByteArray) (vb : Nat) (w : World) (hT : Tab w tb line path name keys mb fb)
    (hL : (Instr.lookup 53 (.map (some mb)) (.string key) false).run Tryf.prog w = .ok (.pointer (some ⟨vb, 0, none⟩)) w) :
    Calls Tryf.prog 19 #[.pointer (some ⟨tb, 0, none⟩), .string key, .string shown] w fun e w' => e = .returned (.pointer (some ⟨vb, 0, none⟩)) ∧ w = w' := by
  obtain ⟨h0, h1, h2, h3, h4, h5⟩ := hT.cells
  go_enter Tryf.func19, Tryf.ntmps19
  go_wp2_with fail
  go_ret
  exact ⟨rfl, rfl⟩

set_option maxHeartbeats 800000 in
theorem get_miss (F : Interp) (tb : Nat) (line : Int) (path name : ByteArray) (keys : Value) (mb fb : Nat) (fpath key shown : ByteArray) (w : World) (hT : Tab w tb line path name keys mb fb) (hFi : File w fb fpath none) (hF : F.answers w.tape)
    (hL : (Instr.lookup 53 (.map (some mb)) (.string key) false).run Tryf.prog w = .ok (.pointer none) w) :
    Calls Tryf.prog 19 #[.pointer (some ⟨tb, 0, none⟩), .string key, .string shown] w fun e w' => e = .returned (.pointer none) ∧ Faulted w w' fb fpath line := by
  obtain ⟨h0, h1, h2, h3, h4, h5⟩ := hT.cells
  have hlt : tb < w.heap.size := World.block_lt_of_cell? w _ h0
  have hlt1 : tb < w.heap.size + 1 := by omega
  have hne : ¬ w.heap.size = tb := by omega
  have hne' : ¬ tb = w.heap.size := by omega
  go_enter Tryf.func19, Tryf.ntmps19
  go_upto_region 3 with fail
  go_region_with (go_at_call 22; refine (fail_at F fb fpath line name shown w hFi hF).mono ?_; rintro e w' ⟨rfl, hq⟩)
  all_goals
    go_wp2_with fail
    go_ret
    exact ⟨rfl, hq⟩

theorem fail_at_some (fb : Nat) (fpath : ByteArray) (a : Addr) (line : Int) (fm : ByteArray) (o : Obj) (v : Value) (w : World) (h : File w fb fpath (some a)) :
    Calls Tryf.prog 22 #[.pointer (some ⟨fb, 0, none⟩), .int .i64 line, .string fm, v] (w.alloc o).drew fun e w' => e = .returned (.tuple #[]) ∧ But [] w w' := by
  have hb : But [] w (w.alloc o).drew := ((But.refl _ _).alloc _).drew
  refine (fail_some fb fpath a line fm v _ (h.kept hb (by simp))).mono ?_
  rintro e w' ⟨rfl, rfl⟩
  exact ⟨rfl, hb⟩
set_option maxHeartbeats 800000 in
theorem get_again (tb : Nat) (line : Int) (path name : ByteArray) (keys : Value) (mb fb : Nat) (fpath key shown : ByteArray) (a : Addr) (w : World) (hT : Tab w tb line path name keys mb fb) (hFi : File w fb fpath (some a))
    (hL : (Instr.lookup 53 (.map (some mb)) (.string key) false).run Tryf.prog w = .ok (.pointer none) w) :
    Calls Tryf.prog 19 #[.pointer (some ⟨tb, 0, none⟩), .string key, .string shown] w fun e w' => e = .returned (.pointer none) ∧ But [] w w' := by
  obtain ⟨h0, h1, h2, h3, h4, h5⟩ := hT.cells
  have hlt : tb < w.heap.size := World.block_lt_of_cell? w _ h0
  have hlt1 : tb < w.heap.size + 1 := by omega
  have hne : ¬ w.heap.size = tb := by omega
  have hne' : ¬ tb = w.heap.size := by omega
  go_enter Tryf.func19, Tryf.ntmps19
  go_upto_region 3 with fail
  go_region_with (go_at_call 22; refine (fail_at_some fb fpath a line _ _ _ w hFi).mono ?_; rintro e w' ⟨rfl, hq⟩)
  all_goals
    go_wp2_with fail
    go_ret
    exact ⟨rfl, hq⟩

end Go.Proofs.Qxb6616301aFmt
