import Derived.Test.Qxb6616301aFmtMake
namespace Go.Proofs.Qxb6616301aFmt
open Go.RowKit Go.Extern.Stop Go.Stop Go.Extern

theorem info9 : (Tryf.prog.info? 9).map (fun i => (i.zero, i.size, i.bytes)) = some (some (.string ⟨#[]⟩), 1, 16) := by kernel_rfl

/-- A map's block turned. -/
theorem But.setMap (w : World) (mb : Nat) (o : Obj) : But [mb] w { w with heap := w.heap.setIfInBounds mb o } := by
  refine ⟨rfl, rfl, rfl, by simp, fun k hk hn => ?_⟩
  show (w.heap.setIfInBounds mb o)[k]? = _
  rw [Array.getElem?_setIfInBounds, if_neg (fun e => hn (by simp [e]))]

/-- What set leaves: one key, one entry. -/
def SetDone (w w' : World) (tb mb fb vb : Nat) (line : Int) (path name key : ByteArray) : Prop :=
  ∃ kb cap, Tab w' tb line path name (.slice (some ⟨kb, 0, none⟩) 1 cap) mb fb ∧ w'.heap[mb]? = some (.map #[{ key := .string key, val := .pointer (some ⟨vb, 0, none⟩), born := 0 }] 1) ∧ w'.cell? ⟨kb, 0, none⟩ = some (.string key) ∧ w.heap.size ≤ kb ∧ But [tb, mb] w w'

set_option maxHeartbeats 800000 in
theorem set_any (tb : Nat) (line : Int) (path name : ByteArray) (mb fb vb : Nat) (key : ByteArray) (w : World) (hT : Tab w tb line path name (.slice none 0 0) mb fb) (hM : w.heap[mb]? = some (.map #[] 0)) :
    Calls Tryf.prog 21 #[.pointer (some ⟨tb, 0, none⟩), .string key, .pointer (some ⟨vb, 0, none⟩)] w fun e w' => e = .returned (.tuple #[]) ∧ SetDone w w' tb mb fb vb line path name key := by
  obtain ⟨h0, h1, h2, h3, h4, h5⟩ := hT.cells
  obtain ⟨i9, hi, hz0, hz1, hz2⟩ := info_parts info9
  have hlt : tb < w.heap.size := World.block_lt_of_cell? w _ h0
  have hne : tb ≠ mb := by rintro rfl; rw [hT] at hM; simp at hM
  have hlm : mb < w.heap.size := (Array.getElem?_eq_some_iff.1 hM).1
  go_enter Tryf.func21, Tryf.ntmps21
  go_wp2_with (at_builtin; refine wpList_append_own _ rfl _ _ 38 rfl w.heap.size 9 i9 (.string ⟨#[]⟩) 1 16 Tryf.underlying38 hi hz0 hz1 hz2 rfl (by decide) _ _ _ rfl (World.ownsRow_nil _ _ _ _) ⟨w.heap.size, 0, none⟩ 1 1 [.string key] rfl rfl ?c1 ?c2 ?c3 ?c4 ?c5 ?_)
  case c1 =>
    intro j u hj
    match j, hj with
    | 0, hj => simp at hj; subst hj; simp [Addr.add]
  case c2 => intro u hu; simp at hu; subst hu; rfl
  case c3 => unfold maxLen; omega
  case c4 => omega
  case c5 => simp
  intro v' w1 hown hgr _
  have b1 : But [] w w1 := ((But.refl [] w).alloc _).own (But.of_grown hgr) (by simp)
  obtain ⟨g, cap, rfl, hgl, hgc⟩ : ∃ g cap, v' = .slice (some ⟨g, 0, none⟩) 1 cap ∧ w.heap.size ≤ g ∧ w1.cell? ⟨g, 0, none⟩ = some (.string key) := by
    rcases hown.2 with ⟨h', hh⟩ | ⟨g', cap', cur, h', q1, hg, q2, q3, q4, htake⟩
    · simp at hh
    · subst h'
      refine ⟨g', cap', rfl, q1, ?_⟩
      rw [cell_of_row w1 g' 0 cur 9 (0, 0) hg]
      have : cur.toList[0]? = some (.string key) := by
        have e : (cur.toList.take 1)[0]? = some (.string key) := by
          have := congrArg (fun l => l[0]?) htake
          simpa using this
        simpa using e
      rw [← Array.getElem?_toList]; exact this
  have hT1 := hT.kept b1 (by simp)
  have c3 := hT1.cells.2.2.2.1
  have f3 := frozen_of_row w1 tb 3 _ 55 hT1
  have hT2 : Tab (w1.setCell ⟨tb, 3, none⟩ (.slice (some ⟨g, 0, none⟩) 1 cap)) tb line path name (.slice (some ⟨g, 0, none⟩) 1 cap) mb fb := heap_setCell_same w1 tb 3 _ 55 _ hT1
  have b2 : But [tb] w1 (w1.setCell ⟨tb, 3, none⟩ (.slice (some ⟨g, 0, none⟩) 1 cap)) := (But.refl _ _).setCell (by simp) _
  have hM2 := b2.get (b1.get hM (by simp)) (by simpa using hne.symm)
  have hg2 := b2.cell hgc (by simp; omega)
  go_upto_region 1 with fail
  generalize w1.setCell ⟨tb, 3, none⟩ (.slice (some ⟨g, 0, none⟩) 1 cap) = w2 at *
  have d4 := hT2.cells.2.2.2.2.1
  have hmu := run_mapUpdate_first (P := Tryf.prog) w2 53 9 28 mb 0 key (.pointer (some ⟨vb, 0, none⟩)) Tryf.underlying53 Tryf.underlying9 hM2
  have b3 := But.setMap w2 mb (.map #[{ key := .string key, val := .pointer (some ⟨vb, 0, none⟩), born := 0 }] (0 + 1))
  have hM3 := (MapKept.heap_set (o' := .map #[{ key := .string key, val := .pointer (some ⟨vb, 0, none⟩), born := 0 }] (0 + 1)) hM2).1
  go_wp2_with fail
  go_end0
  exact ⟨rfl, g, cap, hT2.kept b3 (by simpa using hne), hM3, b3.cell hg2 (by simp; omega), hgl, ((b1.mono (by simp)).trans (b2.mono (by simp))).trans (b3.mono (by simp))⟩

end Go.Proofs.Qxb6616301aFmt
