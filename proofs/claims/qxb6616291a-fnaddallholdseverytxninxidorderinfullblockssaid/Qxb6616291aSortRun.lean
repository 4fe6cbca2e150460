import Derived.Test.Qxb6616291aEnts
import Derived.Test.Qxb6616291aShelf
import Derived.Lib.QuietBelow
/-! ONE RUN OF ENTRIES SORTED BY THE LIBRARY: slices.SortFunc with the closure that compares xids. -/
namespace Go.Proofs.Qxb6616291a
open Go.RowKit Go.Sort Go.Shelf

/-- The entries' order: by their transactions' xids. -/
def leX (X : Nat → ByteArray) (a b : Ent) : Prop := Ord.le (X a.tb).data.toList (X b.tb).data.toList
def encE (e : Ent) : List Value := [.int .u64 e.key, .pointer (some ⟨e.tb, 0, none⟩)]

set_option maxHeartbeats 1000000 in
theorem closure55 (a b : Ent) (s t : ByteArray) (W : World) (h1 : W.cell? ⟨a.tb, 2, none⟩ = some (.string s)) (h2 : W.cell? ⟨b.tb, 2, none⟩ = some (.string t)) :
    Calls Try.prog 55 #[.agg #[.int .u64 a.key, .pointer (some ⟨a.tb, 0, none⟩)], .agg #[.int .u64 b.key, .pointer (some ⟨b.tb, 0, none⟩)]] W fun e w' => e = .returned (.int .i64 (Lib.compareBytes s.data.toList t.data.toList)) ∧ ∃ q os', w' = grow (W.drewN q) os' := by
  have g1 : ∀ x y : Obj, ((W.alloc x).alloc y).cell? ⟨a.tb, 2, none⟩ = some (.string s) := fun x y => cell_past y (cell_past x h1)
  have g2 : ∀ x y : Obj, ((W.alloc x).alloc y).cell? ⟨b.tb, 2, none⟩ = some (.string t) := fun x y => cell_past y (cell_past x h2)
  have l1 := World.block_lt_of_cell? W _ h1
  have l2 := World.block_lt_of_cell? W _ h2
  simp only at l1 l2
  go_enter Try.func55, Try.ntmps55
  go_wp2
  go_quiet ((go_at_call 56; exact Calls.quiet_of_same (strings_Compare s t _)))
  go_wp2
  go_ret
  refine ⟨rfl, nq, #[.cells #[.int .u64 a.key, .pointer (some ⟨a.tb, 0, none⟩)] 41] ++ #[.cells #[.int .u64 b.key, .pointer (some ⟨b.tb, 0, none⟩)] 41], ?_⟩
  rw [alloc_eq_grow, alloc_eq_grow, grow_grow]
  rfl

theorem heap_mapBlock (w : World) (b : Nat) (f : Array Value → Array Value) {cs : Array Value} {t : TypeId} {fr : Nat × Nat} (h : w.heap[b]? = some (.cells cs t fr)) : (mapBlock w b f).heap[b]? = some (.cells (f cs) t fr) := by
  simp [mapBlock, Array.getElem?_modify, h, onCells]
theorem heap_mapBlock_other (w : World) (b k : Nat) (f : Array Value → Array Value) (h : k ≠ b) : (mapBlock w b f).heap[k]? = w.heap[k]? := by
  simp [mapBlock, Array.getElem?_modify, Ne.symm h]

theorem but_sortWorld {α : Type} [Inhabited α] (enc : α → List Value) (k : Nat) (w : World) (b off n : Nat) (d : Array α) (os : Array Obj) : But [b] w (sortWorldK enc k w b off n d os) := by
  refine ⟨rfl, rfl, rfl, ?_, fun i hi hn => ?_⟩
  · unfold sortWorldK putRowK putRow
    simp [mapBlock]
  · unfold sortWorldK putRowK putRow
    rw [heap_grow_old _ _ (by simpa [mapBlock] using hi), heap_mapBlock_other _ _ _ _ (by simpa using hn)]
    rfl

/-- The row behind the sort: the run replaced. -/
theorem row_sortWorld {α : Type} [Inhabited α] (enc : α → Ent) (w : World) (b : Nat) (C : List Ent) (hR : Row w b C) (i n : Nat) (d : Array α) (os : Array Obj) (hi : i + d.size ≤ C.length) :
    Row (sortWorldK (fun x => encE (enc x)) 2 w b (i * 2) n d os) b (C.take i ++ d.toList.map enc ++ C.drop (i + d.size)) := by
  obtain ⟨cs, h1, h2, h3, h4⟩ := hR
  have hlt : b < w.heap.size := (Array.getElem?_eq_some_iff.1 h1).1
  have hlen : (C.take i ++ d.toList.map enc ++ C.drop (i + d.size)).length = C.length := by simp; omega
  have hh : (sortWorldK (fun x => encE (enc x)) 2 w b (i * 2) n d os).heap[b]? = some (.cells (putCells id (i * 2) (flatK (fun x => encE (enc x)) 2 d) cs) 41 (0, 0)) := by
    unfold sortWorldK putRowK putRow
    rw [heap_grow_old _ _ (by simpa [mapBlock] using hlt)]
    exact heap_mapBlock _ _ _ h1
  have hget : ∀ k, (putCells id (i * 2) (flatK (fun x => encE (enc x)) 2 d) cs)[k]? = if i * 2 ≤ k ∧ k < i * 2 + d.size * 2 then (if k < cs.size then some ((flatK (fun x => encE (enc x)) 2 d)[k - i * 2]!) else none) else cs[k]? := by
    intro k
    unfold putCells
    rw [Array.getElem?_mapIdx]
    by_cases hk : k < cs.size
    · rw [Array.getElem?_eq_getElem hk]
      by_cases c : i * 2 ≤ k ∧ k < i * 2 + d.size * 2
      · rw [if_pos c]; simp [c, hk]
      · rw [if_neg c]; simp only [size_flatK, Option.map_some, if_neg c]
    · rw [Array.getElem?_eq_none (by omega)]
      simp [hk]
  have hsz : (putCells id (i * 2) (flatK (fun x => encE (enc x)) 2 d) cs).size = 2 * C.length := by unfold putCells; simpa using h2
  -- what stands at place u
  have hin : ∀ u, i ≤ u → u < i + d.size → At (putCells id (i * 2) (flatK (fun x => encE (enc x)) 2 d) cs) u (enc d[u - i]!) := by
    intro u hu1 hu2
    refine ⟨?_, ?_⟩
    · rw [hget, if_pos (by omega), if_pos (by omega), get_flatK _ _ _ _ (by omega)]
      rw [show (u * 2 - i * 2) / 2 = u - i by omega, show (u * 2 - i * 2) % 2 = 0 by omega]
      rfl
    · rw [hget, if_pos (by omega), if_pos (by omega), get_flatK _ _ _ _ (by omega)]
      rw [show (u * 2 + 1 - i * 2) / 2 = u - i by omega, show (u * 2 + 1 - i * 2) % 2 = 1 by omega]
      rfl
  have hout : ∀ u, (u < i ∨ i + d.size ≤ u) → ((putCells id (i * 2) (flatK (fun x => encE (enc x)) 2 d) cs)[u * 2]? = cs[u * 2]? ∧ (putCells id (i * 2) (flatK (fun x => encE (enc x)) 2 d) cs)[u * 2 + 1]? = cs[u * 2 + 1]?) := by
    intro u hu
    rw [hget, hget, if_neg (by omega), if_neg (by omega)]
    exact ⟨rfl, rfl⟩
  unfold Row
  rw [hlen]
  refine ⟨_, hh, hsz, fun u hu => ?_, fun u e hu he => ?_⟩
  · by_cases c : i ≤ u ∧ u < i + d.size
    · obtain ⟨a1, a2⟩ := hin u c.1 c.2
      exact ⟨_, _, a1, a2⟩
    · obtain ⟨a1, a2⟩ := hout u (by omega)
      obtain ⟨z, p, q1, q2⟩ := h3 u hu
      exact ⟨z, p, by rw [a1]; exact q1, by rw [a2]; exact q2⟩
  · by_cases c : i ≤ u ∧ u < i + d.size
    · have hh := hin u c.1 c.2
      have e1 : (C.take i ++ d.toList.map enc ++ C.drop (i + d.size))[u]? = some (enc d[u - i]!) := by
        rw [List.getElem?_append_left (by simp; omega), List.getElem?_append_right (by simp; omega)]
        have hi' : (C.take i).length = i := by simp; omega
        have hd : u - i < d.size := by omega
        rw [hi', List.getElem?_map, Array.getElem?_toList, Array.getElem?_eq_getElem hd, getElem!_pos d _ hd]
        rfl
      rw [← Option.some.inj (e1.symm.trans he)]
      exact hh
    · obtain ⟨a1, a2⟩ := hout u (by omega)
      have e1 : (C.take i ++ d.toList.map enc ++ C.drop (i + d.size))[u]? = C[u]? := by
        by_cases c1 : u < i
        · rw [List.append_assoc, List.getElem?_append_left (by simp; omega), List.getElem?_take, if_pos c1]
        · have hi' : (C.take i ++ d.toList.map enc).length = i + d.size := by simp; omega
          rw [List.getElem?_append_right (by omega), hi', List.getElem?_drop]
          congr 1
          omega
      obtain ⟨q1, q2⟩ := h4 u e hu (e1.symm.trans he)
      exact ⟨by rw [a1]; exact q1, by rw [a2]; exact q2⟩

theorem isAgg41 (w : World) : (isAgg 41).run Try.prog w = .ok true w := by kernel_rfl
theorem sizeOf41 (w : World) : (sizeOf 41).run Try.prog w = .ok 2 w := by kernel_rfl

theorem ltOf_cmp {α : Type} (x : α → List UInt8) (a b : α) : ltOf (fun p q => Lib.compareBytes (x p) (x q)) a b = decide (Lib.compareBytes (x a) (x b) < 0) := rfl
/-- 'cmp(a, b) < 0' is a strict weak order. -/
theorem swoX {α : Type} (x : α → List UInt8) : SWO (ltOf fun p q => Lib.compareBytes (x p) (x q)) where
  irrefl a := by rw [ltOf_cmp, Ord.cmp_self]; rfl
  trans a b c h1 h2 := by
    rw [ltOf_cmp, decide_eq_true_iff] at *
    have t := Ord.le_trans (x a) (x b) (x c) (by unfold Ord.le; omega) (by unfold Ord.le; omega)
    unfold Ord.le at t
    by_cases e : Lib.compareBytes (x a) (x c) = 0
    · have e' := Ord.cmp_zero _ _ e
      rw [e', Ord.cmp_neg (x b) (x c)] at h1
      omega
    · omega
  ntrans a b c h1 h2 := by
    rw [ltOf_cmp, decide_eq_false_iff_not] at *
    have t := Ord.le_trans (x c) (x b) (x a) (by unfold Ord.le; rw [Ord.cmp_neg (x b) (x c)]; omega) (by unfold Ord.le; rw [Ord.cmp_neg (x a) (x b)]; omega)
    unfold Ord.le at t
    rw [Ord.cmp_neg (x a) (x c)] at t
    omega

theorem holds_row (w : World) (b : Nat) (C : List Ent) (hR : Row w b C) (i : Nat) {α : Type} [Inhabited α] (enc : α → Ent) (d : Array α) (hd : ∀ u (hu : u < d.size), C[i + u]? = some (enc d[u])) : HoldsK (fun x => encE (enc x)) 2 w b (i * 2) d := by
  intro j hj
  have hj' : j < d.size * 2 := by simpa using hj
  have hu : j / 2 < d.size := by omega
  have hc := hd (j / 2) hu
  have hl : i + j / 2 < C.length := (List.getElem?_eq_some_iff.1 hc).1
  obtain ⟨a1, a2⟩ := Part.at hR (i + j / 2) _ hl hc
  refine ⟨?_, Part.free hR _⟩
  show w.cell? _ = some ((flatK (fun x => encE (enc x)) 2 d)[j]!)
  rw [get_flatK _ _ _ _ hj', getElem!_pos d _ hu]
  by_cases c : j % 2 = 0
  · rw [c, show i * 2 + j = (i + j / 2) * 2 by omega, a1]; rfl
  · rw [show j % 2 = 1 by omega, show i * 2 + j = (i + j / 2) * 2 + 1 by omega, a2]; rfl

/-- slices.SortFunc over the run of r entries from place i. -/
theorem sortRun (b : Nat) (C : List Ent) (X : Nat → ByteArray) (w : World) (hR : Row w b C) (i r cap : Nat) (hr : 1 ≤ r) (hir : i + r ≤ C.length) (hm : C.length ≤ 131072) (hX : ∀ e ∈ C, ∃ q, Txn w e.tb (X e.tb) q) :
    Calls Try.prog 54 #[.slice (some ⟨b, i * 2, none⟩) r cap, .func (Fn.func 55) #[] #[]] w fun e w' => e = .returned (.tuple #[]) ∧ ∃ R : List Ent, R.Perm ((C.drop i).take r) ∧ R.Pairwise (leX X) ∧ Row w' b (C.take i ++ R ++ C.drop (i + r)) ∧ But [b] w w' := by
  have hseg : ((C.drop i).take r).length = r := by simp; omega
  have hmem : ∀ e, e ∈ (C.drop i).take r → e ∈ C := fun e he => List.mem_of_mem_drop (List.mem_of_mem_take he)
  have h0 : C[i]'(by omega) ∈ C := List.getElem_mem _
  haveI : Inhabited { e : Ent // e ∈ C } := ⟨⟨C[i]'(by omega), h0⟩⟩
  let d : Array { e : Ent // e ∈ C } := (((C.drop i).take r).attachWith (· ∈ C) hmem).toArray
  have hds : d.size = r := by simp [d, hseg]
  have hdm : d.toList.map (·.1) = (C.drop i).take r := by simp [d]
  have hdu : ∀ u (hu : u < d.size), C[i + u]? = some (d[u]).1 := by
    intro u hu
    have e1 : (d.toList.map (·.1))[u]? = some (d[u]).1 := by rw [List.getElem?_map, Array.getElem?_toList, Array.getElem?_eq_getElem hu]; rfl
    rw [hdm, List.getElem?_take, if_pos (by omega), List.getElem?_drop] at e1
    exact e1
  have eg : ∀ args w, (callFunc 55 args).run Try.prog w = .ok (.enter 55 args) w := enters_of Try.func55 (by kernel_rfl) rfl
  obtain ⟨csr, hcs, _⟩ := id hR
  have hblk : b < w.heap.size := Part.lt hR
  have hcmp : CmpLays Try.prog 55 #[] (fun x : { e : Ent // e ∈ C } => encE x.1) 2 (fun x y => Lib.compareBytes (X x.1.tb).data.toList (X y.1.tb).data.toList) b (i * 2) d.size w := by
    intro m os dk _ x y
    obtain ⟨q1, t1⟩ := hX x.1 x.2
    obtain ⟨q2, t2⟩ := hX y.1 y.2
    have k1 := t1.kept (but_sortWorld (fun x : { e : Ent // e ∈ C } => encE x.1) 2 w b (i * 2) m dk os) (by simp; exact t1.ne hcs (by decide))
    have k2 := t2.kept (but_sortWorld (fun x : { e : Ent // e ∈ C } => encE x.1) 2 w b (i * 2) m dk os) (by simp; exact t2.ne hcs (by decide))
    exact closure55 x.1 y.1 _ _ _ k1.xid k2.xid
  have hcon := AnyQ.slices_SortFunc Try.sortEnt 2 isAgg41 sizeOf41 (fun x : { e : Ent // e ∈ C } => encE x.1) (fun _ => rfl) (fun x v hv => by simp [encE] at hv; rcases hv with rfl | rfl <;> rfl) (fun x y => Lib.compareBytes (X x.1.tb).data.toList (X y.1.tb).data.toList) (swoX fun x : { e : Ent // e ∈ C } => (X x.1.tb).data.toList) 55 #[] b (i * 2) cap d w eg hcmp (holds_row w b C hR i (fun x : { e : Ent // e ∈ C } => x.1) d hdu) hblk (by omega)
  rw [hds] at hcon
  refine Calls.mono (P := Try.prog) (f := 54) hcon ?_
  rintro e w' ⟨rfl, d', n, os, hp, hs, rfl⟩
  obtain ⟨p1, _, p3⟩ := hp
  have hd' : d'.size = r := by omega
  rw [Array.extract_eq_self_of_le (by omega), Array.extract_eq_self_of_le (by omega)] at p3
  refine ⟨rfl, d'.toList.map (·.1), ?_, ?_, ?_, but_sortWorld _ _ _ _ _ _ _ _⟩
  · rw [← hdm]; exact p3.map _
  · rw [List.pairwise_iff_getElem]
    intro u v hu hv huv
    have hu' : u < d'.size := by simpa using hu
    have hv' : v < d'.size := by simpa using hv
    have hlt := hs u v (by omega) huv (by omega)
    rw [getElem!_pos d' u hu', getElem!_pos d' v hv', ltOf_cmp (fun x : { e : Ent // e ∈ C } => (X x.1.tb).data.toList), decide_eq_false_iff_not] at hlt
    simp only [List.getElem_map, Array.getElem_toList]
    unfold leX Ord.le
    rw [Ord.cmp_neg (X (d'[v]).1.tb).data.toList (X (d'[u]).1.tb).data.toList]
    omega
  · have := row_sortWorld (fun x : { e : Ent // e ∈ C } => x.1) w b C hR i n d' os (by omega)
    rw [hd'] at this
    exact this

end Go.Proofs.Qxb6616291a
