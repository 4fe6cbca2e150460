import Derived.Test.Qxb6616301aFmtSet
namespace Go.Proofs.Qxb6616301aFmt
open Go.RowKit Go.Extern.Stop Go.Stop Go.Extern

/-- Block vb is the value of a table cb. -/
def Val (w : World) (vb : Nat) (kline : Int) (cb : Nat) : Prop := w.heap[vb]? = some (.cells #[.int .i64 kline, .int .i64 3, .string ⟨#[]⟩, .pointer (some ⟨cb, 0, none⟩), .slice none 0 0] 52 (0, 0))
theorem Val.kept {bs : List Nat} {w w' : World} {vb : Nat} {kline : Int} {cb : Nat} (h : Val w vb kline cb) (hb : But bs w w') (hn : ¬ vb ∈ bs) : Val w' vb kline cb := hb.get h hn
theorem Val.cells {w : World} {vb : Nat} {kline : Int} {cb : Nat} (h : Val w vb kline cb) : w.cell? ⟨vb, 0, none⟩ = some (.int .i64 kline) ∧ w.cell? ⟨vb, 1, none⟩ = some (.int .i64 3) ∧ w.cell? ⟨vb, 3, none⟩ = some (.pointer (some ⟨cb, 0, none⟩)) := by
  refine ⟨?_, ?_, ?_⟩ <;> (rw [cell_of_row w vb _ _ 52 (0, 0) h]; rfl)

/-- What descend leaves at a key that was absent from an empty table. -/
def Descended (w w' : World) (tb mb fb : Nat) (line : Int) (path name key : ByteArray) (kline : Int) (e : Ending) : Prop :=
  ∃ vb cb, e = .returned (.pointer (some ⟨cb, 0, none⟩)) ∧ SetDone w w' tb mb fb vb line path name key ∧ Val w' vb kline cb

set_option maxHeartbeats 2000000 in
theorem descend18 (tb : Nat) (line : Int) (path name : ByteArray) (mb fb : Nat) (key : ByteArray) (kline : Int) (w : World) (hT : Tab w tb line path name (.slice none 0 0) mb fb) (hM : w.heap[mb]? = some (.map #[] 0)) (hp : path.size ≤ 300000) (hk : key.size ≤ 300000) :
    Calls Tryf.prog 18 #[.pointer (some ⟨fb, 0, none⟩), .pointer (some ⟨tb, 0, none⟩), .agg #[.string key, .int .i64 kline]] w fun e w' => Descended w w' tb mb fb line path name key kline e := by
  have b0 : But [] w (w.alloc (.cells #[.string key, .int .i64 kline] 47)) := (But.refl _ _).alloc _
  have hT0 := hT.kept b0 (by simp)
  have hM0 := b0.get hM (by simp)
  have hK0 : (w.alloc (.cells #[.string key, .int .i64 kline] 47)).heap[w.heap.size]? = some (.cells #[.string key, .int .i64 kline] 47 (0, 0)) := heap_alloc_new w _
  obtain ⟨h0, h1, h2, h3, h4, h5⟩ := hT0.cells
  have k0 := cell_of_row _ _ 0 _ 47 (0, 0) hK0
  have k1 := cell_of_row _ _ 1 _ 47 (0, 0) hK0
  simp only [List.getElem?_toArray, List.getElem?_cons_succ, List.getElem?_cons_zero] at k0 k1
  have hL := fun n => look_empty mb 0 key ((w.alloc (.cells #[.string key, .int .i64 kline] 47)).drewN n) hM0
  go_enter Tryf.func18, Tryf.ntmps18
  go_upto_region 1 with fail
  generalize hw0 : w.alloc (.cells #[.string key, .int .i64 kline] 47) = w0 at *
  generalize hkb : w.heap.size = kb at *
  go_quiet (fail)
  go_upto_region 3 with fail
  have bq : But [] w (w0.drewN nq) := by rw [← hw0]; exact ((But.refl [] w).alloc _).drewN nq
  have hTq : Tab (w0.drewN nq) tb line path name (.slice none 0 0) mb fb := hT0
  have hMq : (w0.drewN nq).heap[mb]? = some (.map #[] 0) := hM0
  have hKq : (w0.drewN nq).heap[kb]? = some (.cells #[.string key, .int .i64 kline] 47 (0, 0)) := hK0
  clear hL h0 h1 h2 h3 h4 h5 k0 k1 hK0 hM0 hT0 b0
  generalize w0.drewN nq = wq at *
  have k0 := cell_of_row _ _ 0 _ 47 (0, 0) hKq
  have k1 := cell_of_row _ _ 1 _ 47 (0, 0) hKq
  simp only [List.getElem?_toArray, List.getElem?_cons_succ, List.getElem?_cons_zero] at k0 k1
  have hkl : kb < wq.heap.size := World.block_lt_of_cell? wq _ k0
  have hTd : Tab wq.drew tb line path name (.slice none 0 0) mb fb := hTq
  go_cut [7] (fun v wc => ∃ vb cb, v = .pointer (some ⟨vb, 0, none⟩) ∧ Val wc vb kline cb ∧ wq.heap.size ≤ vb ∧ But [] wq wc)
  case first =>
    go_region_with (first | (go_at_call 20; refine (child_any tb line path name (.slice none 0 0) mb fb key wq.drew hTd hp hk).mono ?_; rintro e w' ⟨⟨s, hs, rfl⟩, rfl⟩) | (go_at_call 17; refine (newTable17 fb _ kline false wq.drew hs).mono ?_; rintro e w' ⟨cb, mb', rfl, nm, hTn, hMn, g1, g2, g3, bN⟩; have kk0 := bN.cell k0 (by simp); have kk1 := bN.cell k1 (by simp)))
    all_goals
      go_wp2_with fail
      go_meet
      exact ⟨_, cb, rfl, heap_alloc_new _ _, bN.size, (((But.refl [] wq).drew).trans bN).alloc _⟩
  case rest =>
    obtain ⟨vb, cb, rfl, hV, hge, bc⟩ := hcut
    have kc0 := bc.cell k0 (by simp)
    have hTc := hTq.kept bc (by simp)
    have hMc := bc.get hMq (by simp)
    have htl : tb < wq.heap.size := (Array.getElem?_eq_some_iff.1 hTq).1
    have hml : mb < wq.heap.size := (Array.getElem?_eq_some_iff.1 hMq).1
    go_wp2_with fail
    refine (set_any tb line path name mb fb vb key wc hTc hMc).mono ?_
    rintro e w2 ⟨rfl, kb2, cap2, s1, s2, s3, s4, s5⟩
    have hV2 := hV.kept s5 (by simp; omega)
    obtain ⟨v0, v1, v3⟩ := hV2.cells
    go_wp2_with fail
    go_ret
    exact ⟨vb, cb, rfl, ⟨kb2, cap2, s1, s2, s3, Nat.le_trans (bq.own bc (by simp)).size s4, ((bq.own bc (by simp)).mono (by simp)).trans s5⟩, hV2⟩

end Go.Proofs.Qxb6616301aFmt
