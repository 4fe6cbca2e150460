import Derived.Test.Qxb6616291aIdx
import Derived.Test.Qxb6616291aSortWalk
import Derived.Deep.RegionLaw
/-! addAll's LAST LOOP: the sorted entries cut into blocks. -/
namespace Go.Proofs.Qxb6616291a
open Go.RowKit

theorem But.grown {w w' : World} (h : But [] w w') : w.grownBy w' none := ⟨h.os, h.tape, h.output, h.size, fun k hk _ => h.block k hk (by simp)⟩

/-- An append in a region that draws, by its run. -/
theorem step_append_run {P : Program} {ops : Array Oper} {o : Oper} {a : Act} {w : World} {K : Act → World → Prop} {Q : Exit → Act → World → Prop} {E : Prop}
    (hg : o.guard = none) (s x : Operand) (t : TypeId) (hop : o.op = Op.call { callee := Callee.builtin Builtin.append, args := #[s, x], argTypes := #[t, t] })
    (v1 v2 v' : Value) (hs : a.eval s = v1) (hx : a.eval x = v2) (w' : World) (hrun : (Builtin.append_ #[t, t] o.type #[v1, v2]).run P w = .ok v' w') (hK : K (a.put o.dst v') w') :
    if Region.wanted o (yielded ops a.tmps) = true then Oper.wp P o a w K Q else E := by
  have hw : Region.wanted o (yielded ops a.tmps) = true := by simp [Region.wanted, hg]
  rw [if_pos hw]
  unfold Oper.wp
  simp [execOp, hop, resolve, invoke, builtin, hs, hx, hrun, Result.andThen]
  exact hK

/-- r blocks are made. -/
structure Fill (w wr : World) (xb G BB m r : Nat) (C : List Ent) (Bs : Nat → Nat) : Prop where
  top : wr.heap[xb]? = some (.cells #[.slice (some ⟨BB, 0, none⟩) r (nblk m)] 106 (0, 0))
  row : BRow wr G C
  blocks : wr.ownsRow w.heap.size 37 1 (.slice (some ⟨BB, 0, none⟩) r (nblk m)) r ((List.range r).map fun i => bval (Bs i) m i)
  each : ∀ i, i < r → BRow wr (Bs i) (chunk C i)
  old : But [xb] w wr

theorem Fill.tag {w wr : World} {xb G BB m r : Nat} {C : List Ent} {Bs : Nat → Nat} (h : Fill w wr xb G BB m r C Bs) : ∃ cs, wr.heap[BB]? = some (.cells cs 37 (0, 0)) ∧ w.heap.size ≤ BB := by
  rcases h.blocks.2 with ⟨h', _⟩ | ⟨g', cap', cur, h', hb, hg, _⟩
  · simp at h'
  · simp only [Value.slice.injEq, Option.some.injEq, Addr.mk.injEq, and_true, true_and] at h'
    obtain ⟨rfl, rfl⟩ := h'
    exact ⟨cur, hg, hb⟩

theorem Fill.done {w wr : World} {xb G BB m : Nat} {C : List Ent} {Bs : Nat → Nat} (h : Fill w wr xb G BB m (nblk m) C Bs) (hm : C.length = m) : Idx wr xb C := by
  refine ⟨_, h.top, .inr ⟨BB, nblk m, Bs, by rw [hm], ?_, fun i hi => h.each i (by rw [← hm]; exact hi)⟩⟩
  rcases h.blocks.2 with ⟨h', _⟩ | ⟨g', cap', cur, h', hb, hg, h2, h3, h4, htake⟩
  · simp at h'
  · simp only [Value.slice.injEq, Option.some.injEq, Addr.mk.injEq, and_true, true_and] at h'
    obtain ⟨rfl, rfl⟩ := h'
    refine ⟨cur, hg, fun i hi => ?_⟩
    rw [hm] at hi
    have e1 : (cur.toList.take (nblk m * 1))[i]? = some (bval (Bs i) m i) := by rw [htake]; simp [hi]
    rw [List.getElem?_take, if_pos (by omega)] at e1
    rw [hm]
    simpa using e1

theorem info37 : (Try.prog.info? 37).map (fun i => (i.zero, i.size, i.bytes)) = some (some (.slice none 0 0), 1, 24) := by kernel_rfl

def Z512 : Array Value := madeCells #[.int .u64 0, .pointer none] 1024
theorem make512 (w : World) : (Instr.makeSlice 37 (.int .i64 0) (.int .i64 512)).run Try.prog w = .ok (.slice (some ⟨w.heap.size, 0, none⟩) 0 512) (w.alloc (.cells Z512 41)) := by
  obtain ⟨i, hi, hz, hs, hb⟩ := info_parts info41
  have hr := run_make (P := Try.prog) w 37 41 i _ Try.underlying37 hi hz .i64 .i64 0 512 (by omega) (by omega) (by rw [hb]; omega) (by omega)
  rw [hs] at hr
  exact hr
theorem made512 (w : World) (base : Nat) (hb : base ≤ w.heap.size) : (w.alloc (.cells Z512 41)).ownsRow base 41 2 (.slice (some ⟨w.heap.size, 0, none⟩) 0 512) 0 [] :=
  World.ownsRow_made w Z512 512 hb (by unfold maxLen; omega) (by unfold Z512; rw [size_madeCells])

/-- What the two appends of a round leave. -/
theorem Fill.round {w wr : World} {xb G BB m r : Nat} {C : List Ent} {Bs : Nat → Nat} (h : Fill w wr xb G BB m r C Bs) (hC : C.length = m) (hr : 384 * r < m) (hGx : G ≠ xb) (cc : Nat) :
    ∃ w2 w3, (Builtin.append_ #[37, 37] 37 #[.slice (some ⟨wr.heap.size, 0, none⟩) 0 512, .slice (some ⟨G, 384 * r * 2, none⟩) (blen m r) cc]).run Try.prog (wr.alloc (.cells Z512 41)).drew = .ok (.slice (some ⟨wr.heap.size, 0, none⟩) (blen m r) 512) w2 ∧
      (Builtin.append_ #[34, 34] 34 #[.slice (some ⟨BB, 0, none⟩) r (nblk m), .slice (some ⟨w2.heap.size, 0, none⟩) 1 1]).run Try.prog (w2.alloc (.cells #[.slice (some ⟨wr.heap.size, 0, none⟩) (blen m r) 512] 37)) = .ok (.slice (some ⟨BB, 0, none⟩) (r + 1) (nblk m)) w3 ∧
      w2.heap[xb]? = some (.cells #[.slice (some ⟨BB, 0, none⟩) r (nblk m)] 106 (0, 0)) ∧ w3.heap[xb]? = some (.cells #[.slice (some ⟨BB, 0, none⟩) r (nblk m)] 106 (0, 0)) ∧
      Fill w (w3.setCell ⟨xb, 0, none⟩ (.slice (some ⟨BB, 0, none⟩) (r + 1) (nblk m))) xb G BB m (r + 1) C (fun i => if i = r then wr.heap.size else Bs i) := by
  obtain ⟨i4, hi4, hz40, hz41, hz42⟩ := info_parts info41
  obtain ⟨i5, hi5, hz50, hz51, hz52⟩ := info_parts info37
  have hbl : blen m r ≤ 384 := by unfold blen; omega
  have hch : (chunk C r).length = blen m r := by rw [chunk_length, hC]
  obtain ⟨csB, hBB, hBBw⟩ := h.tag
  have hxlt : xb < wr.heap.size := (Array.getElem?_eq_some_iff.1 h.top).1
  have hBBlt : BB < wr.heap.size := (Array.getElem?_eq_some_iff.1 hBB).1
  have hGlt := h.row.lt
  -- the inner append
  have b1 : But [] wr (wr.alloc (.cells Z512 41)).drew := ((But.refl _ _).alloc _).drew
  have hown1 : (wr.alloc (.cells Z512 41)).drew.ownsRow wr.heap.size 41 2 (.slice (some ⟨wr.heap.size, 0, none⟩) 0 512) 0 [] := made512 wr _ (Nat.le_refl _)
  have hnews : ∀ j u, (flat (chunk C r))[j]? = some u → (wr.alloc (.cells Z512 41)).drew.cell? ((⟨G, 384 * r * 2, none⟩ : Addr).add j) = some u := by
    have h1 := (h.row.kept b1 (by simp)).news (384 * r) (chunk C r).length (by rw [hch, hC]; unfold blen; omega)
    have e1 : (C.drop (384 * r)).take (chunk C r).length = chunk C r := by
      unfold chunk
      rw [List.length_take, List.take_eq_take_iff]
      omega
    rw [e1] at h1
    exact h1
  obtain ⟨w2, hrun2, hown2, hgr2⟩ := run_append_fits (P := Try.prog) (wr.alloc (.cells Z512 41)).drew wr.heap.size 37 37 41 i4 2 Try.underlying37 hi4 hz41 wr.heap.size 0 512 [] hown1 ⟨G, 384 * r * 2, none⟩ (blen m r) cc (flat (chunk C r)) (by rw [flat_length, hch]) hnews (flat_one_cell _) (by omega)
  rw [Nat.zero_add, List.nil_append] at hown2
  rw [Nat.zero_add] at hrun2
  have b2 : But [] wr w2 := b1.own (But.of_grown_some hgr2) (by simp)
  have hnew : BRow w2 wr.heap.size (chunk C r) := brow_of_owns hown2 hch
  -- the outer append
  have b3 : But [] wr (w2.alloc (.cells #[.slice (some ⟨wr.heap.size, 0, none⟩) (blen m r) 512] 37)) := b2.alloc _
  have hblk3 := (h.blocks.kept b2.grown (.inr (by simp [Value.ownBlock]))).alloc (.cells #[.slice (some ⟨wr.heap.size, 0, none⟩) (blen m r) 512] 37)
  obtain ⟨w3, hrun3, hown3, hgr3⟩ := run_append_fits (P := Try.prog) (w2.alloc (.cells #[.slice (some ⟨wr.heap.size, 0, none⟩) (blen m r) 512] 37)) w.heap.size 34 34 37 i5 1 Try.underlying34 hi5 hz51 BB r (nblk m) _ hblk3 ⟨w2.heap.size, 0, none⟩ 1 1 [.slice (some ⟨wr.heap.size, 0, none⟩) (blen m r) 512] rfl (by
    intro j u hu
    rw [Go.WideShapes.add_plain, Nat.zero_add, cell_of_row _ _ _ _ 37 (0, 0) (heap_alloc_new w2 _), ← hu]
    simp) (by simp; rfl) (by unfold nblk; omega)
  have b4 : But [BB] wr w3 := (b3.mono (by simp)).trans (But.of_grown_some hgr3)
  have hxB : xb ≠ BB := by rintro rfl; rw [h.top] at hBB; simp at hBB
  have top3 : w3.heap[xb]? = some (.cells #[.slice (some ⟨BB, 0, none⟩) r (nblk m)] 106 (0, 0)) := b4.get h.top (by simpa using hxB)
  refine ⟨w2, w3, hrun2, hrun3, b2.get h.top (by simp), top3, ?_⟩
  have b5 : But [xb] w3 (w3.setCell ⟨xb, 0, none⟩ (.slice (some ⟨BB, 0, none⟩) (r + 1) (nblk m))) := (But.refl _ _).setCell (by simp) _
  have ne41 : ∀ b E, BRow wr b E → b ≠ BB ∧ b ≠ xb := by
    rintro b E ⟨cs, k1, _⟩
    refine ⟨?_, ?_⟩
    · rintro rfl; rw [k1] at hBB; simp at hBB
    · rintro rfl
      have := h.top
      rw [k1] at this
      simp at this
  refine ⟨?_, ?_, ?_, ?_, ?_⟩
  · have := heap_setCell_same w3 xb 0 _ 106 (.slice (some ⟨BB, 0, none⟩) (r + 1) (nblk m)) top3
    simpa using this
  · exact (h.row.kept b4 (by simpa using (ne41 _ _ h.row).1)).kept b5 (by simpa using hGx)
  · have e1 : (List.range (r + 1)).map (fun i => bval (if i = r then wr.heap.size else Bs i) m i) = (List.range r).map (fun i => bval (Bs i) m i) ++ [.slice (some ⟨wr.heap.size, 0, none⟩) (blen m r) 512] := by
      have e2 : (List.range r).map (fun i => bval (if i = r then wr.heap.size else Bs i) m i) = (List.range r).map (fun i => bval (Bs i) m i) := by
        refine List.map_congr_left (fun i hi => ?_)
        have : i ≠ r := by have := List.mem_range.1 hi; omega
        rw [if_neg this]
      rw [List.range_succ, List.map_append, e2, List.map_cons, List.map_nil, if_pos rfl]
      rfl
    rw [e1]
    refine ⟨hown3.1, ?_⟩
    rcases hown3.2 with ⟨h', _⟩ | ⟨g', cap', cur, h', q1, q2, q3⟩
    · simp at h'
    · refine .inr ⟨g', cap', cur, h', q1, ?_, q3⟩
      simp only [Value.slice.injEq, Option.some.injEq, Addr.mk.injEq, and_true, true_and] at h'
      obtain ⟨rfl, rfl⟩ := h'
      exact b5.get q2 (by simpa using fun e : BB = xb => hxB e.symm)
  · intro i hi
    by_cases c : i = r
    · subst c
      simp only [if_pos]
      have k1 : BRow w3 wr.heap.size (chunk C i) := by
        have hk : But [BB] w2 w3 := ((But.refl [BB] w2).alloc _).trans (But.of_grown_some hgr3)
        exact hnew.kept hk (by simp; omega)
      exact k1.kept b5 (by simp; omega)
    · simp only [if_neg c]
      have hb := h.each i (by omega)
      have hn := ne41 _ _ hb
      exact (hb.kept b4 (by simpa using hn.1)).kept b5 (by simpa using hn.2)
  · exact (h.old.own b4 (by simp; omega)).trans b5

end Go.Proofs.Qxb6616291a
