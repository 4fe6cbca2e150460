import Derived.Test.Qxb6616291aMade
/-! THE LAW OF TWO PARTS. -/
namespace Go.Proofs.Qxb6616291a
open Go.RowKit

theorem sizeOf27 (w : World) : (sizeOf 27).run Try.prog w = .ok 1 w := by kernel_rfl
theorem part_to (G b q : Nat) (hb : b ≤ q) (w : World) :
    (Instr.slice 25 (.slice (some ⟨G, 0, none⟩) q q) none (some (.int .i64 (b : Int))) none).run Try.prog w = .ok (.slice (some ⟨G, 0, none⟩) b q) w := by
  have he : Try.prog.elem 25 = 27 := by kernel_rfl
  have hs : ∀ w, (sizeOf (Try.prog.elem 25)).run Try.prog w = .ok 1 w := fun w => by rw [he]; exact sizeOf27 w
  rw [run_slice_h (P := Try.prog) w 25 _ _ _ (by rw [he]; exact Try.underlying25) .i64 _ (by omega) (by omega), hs]
  simp only [Result.andThen, sliced, Int.toNat_natCast, Option.map_some, Nat.zero_mul, Nat.sub_zero, Go.WideShapes.add_plain, Nat.add_zero, ite_self]
theorem part_rest (G b q : Nat) (hb : b ≤ q) (w : World) :
    (Instr.slice 25 (.slice (some ⟨G, 0, none⟩) q q) (some (.int .i64 (b : Int))) none none).run Try.prog w = .ok (.slice (if q = b then some ⟨G, 0, none⟩ else some ⟨G, b, none⟩) (q - b) (q - b)) w := by
  have he : Try.prog.elem 25 = 27 := by kernel_rfl
  have hs : ∀ w, (sizeOf (Try.prog.elem 25)).run Try.prog w = .ok 1 w := fun w => by rw [he]; exact sizeOf27 w
  rw [run_slice_l (P := Try.prog) w 25 _ _ _ (by rw [he]; exact Try.underlying25) .i64 _ (by omega) (by omega), hs]
  simp only [Result.andThen, sliced, Int.toNat_natCast, Option.map_some, Go.WideShapes.add_plain, Nat.mul_one, Nat.zero_add]

/-- The two slices behind k rounds. -/
structure Both (w wx : World) (pb wb n k : Nat) (S : Nat → ByteArray) (P Q : Nat → Nat) : Prop where
  p : TRow wx pb n P k
  q : TRow wx wb n Q k
  t : ∀ j, j < k → Txn wx (P j) (S j) j ∧ Txn wx (Q j) (S j) j
  old : But [] w wx
  ne : pb ≠ wb
  hp : w.heap.size ≤ pb
  hq : w.heap.size ≤ wb

/-- The xids of both slices, one behind the other. -/
def cat (l1 : Nat) (S1 S2 : Nat → ByteArray) (i : Nat) : ByteArray := if i < l1 then S1 i else S2 (i - l1)
theorem xidAt_cat (a1 a2 : Option Addr) (l1 c1 l2 c2 : Nat) (S1 S2 : Nat → ByteArray) (i : Nat) (w : World) (h1 : ReadsS w a1 l1 S1) (h2 : ReadsS w a2 l2 S2) (hi : i < l1 + l2) (_b1 : l1 ≤ 65536) (_b2 : l2 ≤ 65536) :
    Calls Try.prog 11 #[.slice a1 l1 c1, .slice a2 l2 c2, .int .i64 i] w fun e w' => e = .returned (.string (cat l1 S1 S2 i)) ∧ w = w' := xidAt_any a1 a2 l1 c1 l2 c2 S1 S2 i w h1 h2 hi _b1 _b2
theorem newTxn_made (s : ByteArray) (q : Int) (w : World) :
    Calls Try.prog 10 #[.string s, .int .u64 q] w fun e w' => e = .returned (.pointer (some ⟨w.heap.size, 0, none⟩)) ∧ Txn w' w.heap.size s q ∧ But [] w w' := by
  refine (newTxn_any s q w).mono ?_
  rintro e w' ⟨rfl, rfl⟩
  exact ⟨rfl, Txn.made s q w, (But.refl _ _).alloc _⟩
theorem Both.first {w wx wA : World} {pb wb n k : Nat} {S : Nat → ByteArray} {P Q : Nat → Nat} (h : Both w wx pb wb n k S P Q) (hk : k < n) (hb : But [] wx wA) (tb : Nat) (ht : Txn wA tb (S k) k) :
    TRow (wA.setCell ⟨pb, k, none⟩ (.pointer (some ⟨tb, 0, none⟩))) pb n (fun j => if j = k then tb else P j) (k + 1) ∧ TRow (wA.setCell ⟨pb, k, none⟩ (.pointer (some ⟨tb, 0, none⟩))) wb n Q k ∧ (∀ j, j < k + 1 → Txn (wA.setCell ⟨pb, k, none⟩ (.pointer (some ⟨tb, 0, none⟩))) (if j = k then tb else P j) (S j) j) ∧ (∀ j, j < k → Txn (wA.setCell ⟨pb, k, none⟩ (.pointer (some ⟨tb, 0, none⟩))) (Q j) (S j) j) ∧ But [] w (wA.setCell ⟨pb, k, none⟩ (.pointer (some ⟨tb, 0, none⟩))) := by
  have hpA := h.p.kept hb (by simp)
  have b2 : But [pb] wA (wA.setCell ⟨pb, k, none⟩ (.pointer (some ⟨tb, 0, none⟩))) := (But.refl _ _).setCell (by simp) _
  refine ⟨hpA.stored hk tb, (h.q.kept hb (by simp)).kept b2 (by simpa using h.ne.symm), fun j hj => ?_, fun j hj => ?_, (h.old.own hb (by simp)).own b2 (by simpa using h.hp)⟩
  · by_cases e : j = k
    · subst e; rw [if_pos rfl]; exact ht.kept b2 (by simpa using hpA.ne_txn ht)
    · rw [if_neg e]
      have t := ((h.t j (by omega)).1).kept hb (by simp)
      exact t.kept b2 (by simpa using hpA.ne_txn t)
  · have t := ((h.t j hj).2).kept hb (by simp)
    exact t.kept b2 (by simpa using hpA.ne_txn t)
theorem both_second {w wx wC : World} {pb wb n k : Nat} {S : Nat → ByteArray} {P Q : Nat → Nat} (hp : TRow wx pb n P (k + 1)) (hq : TRow wx wb n Q k) (h1 : ∀ j, j < k + 1 → Txn wx (P j) (S j) j) (h2 : ∀ j, j < k → Txn wx (Q j) (S j) j) (old : But [] w wx) (ne : pb ≠ wb) (gp : w.heap.size ≤ pb) (gq : w.heap.size ≤ wb) (hk : k < n) (hb : But [] wx wC) (tb : Nat) (ht : Txn wC tb (S k) k) :
    Both w (wC.setCell ⟨wb, k, none⟩ (.pointer (some ⟨tb, 0, none⟩))) pb wb n (k + 1) S P (fun j => if j = k then tb else Q j) := by
  have hqC := hq.kept hb (by simp)
  have b2 : But [wb] wC (wC.setCell ⟨wb, k, none⟩ (.pointer (some ⟨tb, 0, none⟩))) := (But.refl _ _).setCell (by simp) _
  refine ⟨(hp.kept hb (by simp)).kept b2 (by simpa using ne), hqC.stored hk tb, fun j hj => ⟨?_, ?_⟩, (old.own hb (by simp)).own b2 (by simpa using gq), ne, gp, gq⟩
  · have t := (h1 j hj).kept hb (by simp)
    exact t.kept b2 (by simpa using hqC.ne_txn t)
  · by_cases e : j = k
    · subst e; simp only [if_pos]; exact ht.kept b2 (by simpa using hqC.ne_txn ht)
    · simp only [if_neg e]
      have t := (h2 j (by omega)).kept hb (by simp)
      exact t.kept b2 (by simpa using hqC.ne_txn t)

theorem Idx.fresh (w : World) : Idx (w.alloc (.cells #[.slice none 0 0] 106)) w.heap.size [] := ⟨_, heap_alloc_new w _, .inl ⟨rfl, rfl⟩⟩
/-- The index of transactions that stand as the slice lists them. -/
theorem addAll_fresh (xb pb n l c : Nat) (P : Nat → Nat) (X S : Nat → ByteArray) (w : World) (hI : Idx w xb []) (hp : TRow w pb n P n) (hT : ∀ j, j < n → Txn w (P j) (S j) j) (hX : ∀ j, j < n → X (P j) = S j) (hl : l ≤ n) (hn : n ≤ 131072) :
    Calls Try.prog 13 #[.pointer (some ⟨xb, 0, none⟩), .slice (some ⟨pb, 0, none⟩) l c] w fun e w' => e = .returned (.tuple #[]) ∧ ∃ C : List Ent, C.Perm (ents X P l) ∧ C.Pairwise (leX X) ∧ Idx w' xb C ∧ But [xb] w w' := by
  have hr := hp.reads 0 l (some ⟨pb, 0, none⟩) (by omega) (fun _ => rfl)
  simp only [Nat.zero_add] at hr
  have h := zzAddAll_any xb [] (some ⟨pb, 0, none⟩) l c P X w hI hr (by simp) (by simp) (fun j hj => ⟨j, by rw [hX j (by omega)]; exact hT j (by omega)⟩) (by simp; omega)
  simpa only [List.nil_append] using h
theorem addAll_more (xb pb l1 l2 c : Nat) (P : Nat → Nat) (X S : Nat → ByteArray) (w : World) (L : List Ent) (a : Option Addr) (hI : Idx w xb L) (hL : L.Perm (ents X P l1)) (hp : TRow w pb (l1 + l2) P (l1 + l2)) (hT : ∀ j, j < l1 + l2 → Txn w (P j) (S j) j) (hX : ∀ j, j < l1 + l2 → X (P j) = S j) (ha : 0 < l2 → a = some ⟨pb, l1, none⟩) (hn : l1 + l2 ≤ 131072) :
    Calls Try.prog 13 #[.pointer (some ⟨xb, 0, none⟩), .slice a l2 c] w fun e w' => e = .returned (.tuple #[]) ∧ ∃ C : List Ent, C.Perm (ents X P (l1 + l2)) ∧ C.Pairwise (leX X) ∧ Idx w' xb C ∧ But [xb] w w' := by
  have hr := hp.reads l1 l2 a (by omega) ha
  have hlen : L.length = l1 := by rw [hL.length_eq, ents_length]
  refine (zzAddAll_any xb L a l2 c (fun j => P (l1 + j)) X w hI hr (fun e he => ?_) (fun e he => ents_key X P l1 e (hL.mem_iff.1 he)) (fun j hj => ⟨_, by rw [hX (l1 + j) (by omega)]; exact hT (l1 + j) (by omega)⟩) (by omega)).mono ?_
  · obtain ⟨j, hj, e1⟩ := ents_mem X P l1 e (hL.mem_iff.1 he)
    exact ⟨j, by rw [e1, hX j (by omega)]; exact hT j (by omega)⟩
  · rintro e w' ⟨rfl, C, h1, h2⟩
    exact ⟨rfl, C, by rw [ents_split]; exact h1.trans (List.Perm.append_right _ hL), h2⟩
/-- Where two indexes hold transactions of the same xids, they agree entry by entry. -/
theorem agree (X S : Nat → ByteArray) (P Q : Nat → Nat) (n : Nat) (C D : List Ent) (hC : C.Perm (ents X P n)) (hD : D.Perm (ents X Q n)) (sC : C.Pairwise (leX X)) (sD : D.Pairwise (leX X)) (hP : ∀ j, j < n → X (P j) = S j) (hQ : ∀ j, j < n → X (Q j) = S j) :
    ∀ (i : Nat) (e f : Ent), C[i]? = some e → D[i]? = some f → X e.tb = X f.tb ∧ e.key = Ord.keyOf (X f.tb).data.toList ∧ f.key = Ord.keyOf (X f.tb).data.toList := by
  intro i e f he hf
  have h := Ord.sorted_unique _ _ (xids_sorted X C sC) (xids_sorted X D sD) ((xids_perm X C P S n hC hP).trans (xids_perm X D Q S n hD hQ).symm)
  have h1 : (C.map (fun e => (X e.tb).data.toList))[i]? = some (X e.tb).data.toList := by rw [List.getElem?_map, he]; rfl
  have h2 : (D.map (fun e => (X e.tb).data.toList))[i]? = some (X f.tb).data.toList := by rw [List.getElem?_map, hf]; rfl
  rw [h, h2] at h1
  have hx : X e.tb = X f.tb := bytes_ext (Option.some.inj h1).symm
  refine ⟨hx, ?_, ents_key X Q n f (hD.mem_iff.1 (List.mem_of_getElem? hf))⟩
  rw [← hx]
  exact ents_key X P n e (hC.mem_iff.1 (List.mem_of_getElem? he))

set_option maxHeartbeats 4000000 in
set_option maxRecDepth 100000 in
theorem two_walk (a1 a2 : Option Addr) (l1 c1 l2 c2 : Nat) (S1 S2 : Nat → ByteArray) (w : World) (h1 : ReadsS w a1 l1 S1) (h2 : ReadsS w a2 l2 S2) (b1 : l1 ≤ 9223372036854775807) (b2 : l2 ≤ 9223372036854775807) (s1 : ∀ j, j < l1 → (S1 j).size ≤ 9223372036854775807) (s2 : ∀ j, j < l2 → (S2 j).size ≤ 9223372036854775807) :
    Calls Try.prog 4 #[.slice a1 l1 c1, .slice a2 l2 c2] w fun e w' => e = .returned (.bool true) ∧ But [] w w' := by
  have H1 : Hid (ReadsS w a1 l1 S1) := h1
  have H2 : Hid (ReadsS w a2 l2 S2) := h2
  have G1 : Hid (∀ j, j < l1 → (S1 j).size ≤ 9223372036854775807) := s1
  have G2 : Hid (∀ j, j < l2 → (S2 j).size ≤ 9223372036854775807) := s2
  clear h1 h2 s1 s2
  go_enter Try.func4, Try.ntmps4
  go_wp2_with fail
  refine (zzBytes19 a1 a2 l1 c1 l2 c2 S1 S2 w H1.out H2.out b1 b2 G1.out G2.out).mono ?_
  rintro e w' ⟨⟨g, rfl⟩, rfl⟩
  cases g
  · go_wp2_with fail
    go_ret
    exact ⟨rfl, But.refl _ _⟩
  by_cases t1 : (65536 : Int) < (l1 : Int)
  · go_wp2_with fail
    go_ret
    exact ⟨rfl, But.refl _ _⟩
  by_cases t2 : (65536 : Int) < (l2 : Int)
  · go_wp2_with fail
    go_ret
    exact ⟨rfl, But.refl _ _⟩
  go_wp2_with fail
  refine (stringsBytes_any a1 l1 c1 S1 0 w H1.out G1.out b1 (by omega) (by omega)).mono ?_
  rintro e w' ⟨⟨r, r1, r2, rfl⟩, rfl⟩
  go_wp2_with fail
  refine (stringsBytes_any a2 l2 c2 S2 r w H2.out G2.out b2 r1 r2).mono ?_
  rintro e w' ⟨⟨r', r3, r4, rfl⟩, rfl⟩
  by_cases t3 : (1048576 : Int) < r'
  · go_wp2_with fail
    go_ret
    exact ⟨rfl, But.refl _ _⟩
  clear r1 r2 r3 r4 b1 b2
  go_wp2_with fail
  have hT9 := txnSlice_any (l1 + l2) w (by omega) (fun _ => 0)
  simp only [Int.natCast_add] at hT9
  refine hT9.mono ?_
  rintro e w1 ⟨rfl, hp1, hb1⟩
  clear hT9
  go_wp2_with fail
  have hT9 := txnSlice_any (l1 + l2) w1 (by omega) (fun _ => 0)
  simp only [Int.natCast_add] at hT9
  refine hT9.mono ?_
  rintro e w2 ⟨rfl, hp2, hb2⟩
  clear hT9
  have hB : Both w w2 w.heap.size w1.heap.size (l1 + l2) 0 (cat l1 S1 S2) (fun _ => 0) (fun _ => 0) := ⟨hp1.kept hb2 (by simp), hp2, fun j hj => by omega, hb1.own hb2 (by simp), by have := hp1.lt; omega, Nat.le_refl _, hb1.size⟩
  have HB : Hid (Both w w2 w.heap.size w1.heap.size (l1 + l2) 0 (cat l1 S1 S2) (fun _ => 0) (fun _ => 0)) := hB
  have hpb : w.heap.size < w1.heap.size := hp1.lt
  clear hp1 hp2 hb1 hb2 hB
  generalize hpbe : w.heap.size = pb at *
  generalize hwbe : w1.heap.size = wb at *
  clear hwbe
  go_wp2_with fail
  go_loopw [8] (fun i wx => ∃ (k : Nat) (P Q : Nat → Nat), k ≤ l1 + l2 ∧ i = .int .i64 k ∧ Both w wx pb wb (l1 + l2) k (cat l1 S1 S2) P Q) (fun i _ => l1 + l2 - (intOf i).toNat)
  case atStart => exact ⟨0, _, _, by omega, rfl, HB⟩
  case round =>
    obtain ⟨k, P, Q, hk, rfl, hB⟩ := hrel
    by_cases hlt : k < l1 + l2
    · have W : Hid (∀ wx, But [] w wx → ReadsS wx a1 l1 S1 ∧ ReadsS wx a2 l2 S2) := fun wx hb => ⟨H1.out.kept (hb.below (Nat.le_refl _) (by simp)), H2.out.kept (hb.below (Nat.le_refl _) (by simp))⟩
      have HBk : Hid (Both w wr pb wb (l1 + l2) k (cat l1 S1 S2) P Q) := hB
      clear hB
      go_wp2_with fail
      refine (xidAt_cat a1 a2 l1 c1 l2 c2 S1 S2 k wr (W.out wr HBk.out.old).1 (W.out wr HBk.out.old).2 hlt (by omega) (by omega)).mono ?_
      rintro e w' ⟨rfl, rfl⟩
      go_wp2_with fail
      refine (newTxn_made _ _ _).mono ?_
      rintro e wA ⟨rfl, hTA, hbA⟩
      obtain ⟨pc, hpc⟩ := (HBk.out.p.kept hbA (by simp)).cell k hlt
      have hfc := (HBk.out.p.kept hbA (by simp)).free k
      obtain ⟨f1, f2, f3, f4, f5⟩ := HBk.out.first hlt hbA _ hTA
      go_wp2_with fail
      generalize wA.setCell ⟨pb, k, none⟩ (.pointer (some ⟨wr.heap.size, 0, none⟩)) = wB at *
      refine (xidAt_cat a1 a2 l1 c1 l2 c2 S1 S2 k wB (W.out wB f5).1 (W.out wB f5).2 hlt (by omega) (by omega)).mono ?_
      rintro e w' ⟨rfl, rfl⟩
      go_wp2_with fail
      refine (newTxn_made _ _ _).mono ?_
      rintro e wC ⟨rfl, hTC, hbC⟩
      obtain ⟨qc, hqc⟩ := (f2.kept hbC (by simp)).cell k hlt
      have hfq := (f2.kept hbC (by simp)).free k
      have hN := both_second f1 f2 f3 f4 f5 HBk.out.ne HBk.out.hp HBk.out.hq hlt hbC _ hTC
      have HN : Hid (Both w (wC.setCell ⟨wb, k, none⟩ (.pointer (some ⟨wB.heap.size, 0, none⟩))) pb wb (l1 + l2) (k + 1) (cat l1 S1 S2) (fun j => if j = k then wr.heap.size else P j) (fun j => if j = k then wB.heap.size else Q j)) := hN
      clear hN f1 f2 f3 f4 f5
      go_wp2_with fail
      go_roundw
      case rel => exact ⟨k + 1, _, _, by omega, by go_num, HN⟩
      case measure => simp [intOf]; omega
    · have hke : k = l1 + l2 := by omega
      subst hke
      clear hlt hk
      go_wp2_with fail
      refine (newIndex_any wr).mono ?_
      rintro e w3 ⟨rfl, hw3⟩
      have hI3 : Idx w3 wr.heap.size [] := by rw [hw3]; exact Idx.fresh wr
      have b3 : But [] wr w3 := by rw [hw3]; exact (But.refl _ _).alloc _
      have hXP : ∀ j, j < l1 + l2 → xidIn wr (P j) = cat l1 S1 S2 j := fun j hj => xidIn_of (hB.t j hj).1
      have hXQ : ∀ j, j < l1 + l2 → xidIn wr (Q j) = cat l1 S1 S2 j := fun j hj => xidIn_of (hB.t j hj).2
      have HXP : Hid (∀ j, j < l1 + l2 → xidIn wr (P j) = cat l1 S1 S2 j) := hXP
      have HXQ : Hid (∀ j, j < l1 + l2 → xidIn wr (Q j) = cat l1 S1 S2 j) := hXQ
      have HBn : Hid (Both w wr pb wb (l1 + l2) (l1 + l2) (cat l1 S1 S2) P Q) := hB
      clear hw3 hXP hXQ hB
      generalize hxbe : wr.heap.size = xb at *
      generalize hXe : xidIn wr = X at *
      clear hXe
      have hs1 := part_to pb l1 (l1 + l2) (by omega)
      obtain ⟨A, hAa, hs2⟩ : ∃ A : Option Addr, (0 < l2 → A = some ⟨pb, l1, none⟩) ∧ ∀ w, (Instr.slice 25 (.slice (some ⟨pb, 0, none⟩) (l1 + l2) (l1 + l2)) (some (.int .i64 (l1 : Int))) none none).run Try.prog w = .ok (.slice A l2 l2) w := by
        refine ⟨if l1 + l2 = l1 then some ⟨pb, 0, none⟩ else some ⟨pb, l1, none⟩, fun h => if_neg (by omega), fun w => ?_⟩
        have := part_rest pb l1 (l1 + l2) (by omega) w
        rw [show l1 + l2 - l1 = l2 by omega] at this
        exact this
      go_wp2_with fail
      refine (addAll_fresh xb pb (l1 + l2) l1 (l1 + l2) P X (cat l1 S1 S2) w3 hI3 (HBn.out.p.kept b3 (by simp)) (fun j hj => (HBn.out.t j hj).1.kept b3 (by simp)) HXP.out (by omega) (by omega)).mono ?_
      rintro e w4 ⟨rfl, C1, hC1, _, hI4, b4⟩
      have b4' : But [] wr w4 := b3.own b4 (by simp; omega)
      clear hI3 b4
      go_wp2_with fail
      refine (addAll_more xb pb l1 l2 l2 P X (cat l1 S1 S2) w4 C1 _ hI4 hC1 (HBn.out.p.kept b4' (by simp)) (fun j hj => (HBn.out.t j hj).1.kept b4' (by simp)) HXP.out hAa (by omega)).mono ?_
      rintro e w5 ⟨rfl, C, hC, sC, hI5, b5⟩
      have b5' : But [] wr w5 := b4'.own b5 (by simp; omega)
      clear hI4 b5 b4' b3 hC1
      go_wp2_with fail
      refine (newIndex_any w5).mono ?_
      rintro e w6 ⟨rfl, hw6⟩
      have hI6 : Idx w6 w5.heap.size [] := by rw [hw6]; exact Idx.fresh w5
      have b6 : But [] w5 w6 := by rw [hw6]; exact (But.refl _ _).alloc _
      have b6' : But [] wr w6 := b5'.own b6 (by simp)
      clear hw6
      go_wp2_with fail
      refine (addAll_fresh w5.heap.size wb (l1 + l2) (l1 + l2) (l1 + l2) Q X (cat l1 S1 S2) w6 hI6 (HBn.out.q.kept b6' (by simp)) (fun j hj => (HBn.out.t j hj).2.kept b6' (by simp)) HXQ.out (by omega) (by omega)).mono ?_
      rintro e w7 ⟨rfl, D, hD, sD, hI7, b7⟩
      have b7' : But [] w5 w7 := b6.own b7 (by simp)
      have b8 : But [] wr w7 := b5'.own b7' (by simp)
      have hIx := hI5.kept b7' (by simp)
      obtain ⟨vx, hRx⟩ := hIx.reads
      obtain ⟨vy, hRy⟩ := hI7.reads
      have hlC : C.length = l1 + l2 := by rw [hC.length_eq, ents_length]
      have hlD : D.length = l1 + l2 := by rw [hD.length_eq, ents_length]
      have HA : Hid (∀ (i : Nat) (e f : Ent), C[i]? = some e → D[i]? = some f → X e.tb = X f.tb ∧ e.key = Ord.keyOf (X f.tb).data.toList ∧ f.key = Ord.keyOf (X f.tb).data.toList) := agree X (cat l1 S1 S2) P Q (l1 + l2) C D hC hD sC sD HXP.out HXQ.out
      have HC : Hid (∀ e ∈ C, ∃ q, Txn w7 e.tb (X e.tb) q) := fun e he => by
        obtain ⟨j, hj, e1⟩ := ents_mem X P _ e (hC.mem_iff.1 he)
        exact ⟨j, by rw [e1, HXP.out j hj]; exact (HBn.out.t j hj).1.kept b8 (by simp)⟩
      have HD : Hid (∀ e ∈ D, ∃ q, Txn w7 e.tb (X e.tb) q) := fun e he => by
        obtain ⟨j, hj, e1⟩ := ents_mem X Q _ e (hD.mem_iff.1 he)
        exact ⟨j, by rw [e1, HXQ.out j hj]; exact (HBn.out.t j hj).2.kept b8 (by simp)⟩
      have HRx : Hid (Reads w7 xb C vx) := hRx
      have HRy : Hid (Reads w7 w5.heap.size D vy) := hRy
      have htx := hRx.top
      have hty := hRy.top
      obtain ⟨ax, cx, rfl⟩ := hRx.shape
      obtain ⟨ay, cy, rfl⟩ := hRy.shape
      have b9 : But [] w w7 := HBn.out.old.own b8 (by simp)
      have hSz : Hid (∀ i, i < l1 + l2 → (cat l1 S1 S2 i).size ≤ 9223372036854775807) := fun i hi => by
        unfold cat; split
        · exact G1.out i (by omega)
        · exact G2.out _ (by omega)
      have HDz : Hid (∀ e ∈ D, (X e.tb).size ≤ 9223372036854775807) := fun e he => by
        obtain ⟨j, hj, e1⟩ := ents_mem X Q _ e (hD.mem_iff.1 he)
        rw [e1, HXQ.out j hj]; exact hSz.out j hj
      clear hSz HXP HXQ HBn hRx hRy hIx hI7 b7 b7' b8 b6 b6' hI6 b5' hI5 hC hD sC sD hs1 hs2 hAa HB
      generalize w5.heap.size = yb at *
      generalize hn : l1 + l2 = n at *
      have hnb : n ≤ 131072 := by omega
      have e1 : ((l1 : Int) + (l2 : Int)) = (n : Int) := by omega
      rw [hlC] at htx
      rw [hlD] at hty
      go_wp2_with fail
      refine (blocks_any xb _ w7 ax (nblk C.length) cx rfl (by rw [hlC]; exact htx)).mono ?_
      rintro e w' ⟨rfl, rfl⟩
      go_wp2_with fail
      refine (blocks_any yb _ w7 ay (nblk D.length) cy rfl (by rw [hlD]; exact hty)).mono ?_
      rintro e w' ⟨rfl, rfl⟩
      rw [hlD]
      have hnn : nblk n ≤ 131072 := by unfold nblk; omega
      have hq : ((nblk n : Nat) : Int) = ((n : Int) + 384 - 1) / 384 := by unfold nblk; omega
      go_wp2_with fail
      go_loopw [13, 14] (fun pos bi wx => ∃ k : Nat, k ≤ nblk n ∧ bi = .int .i64 k ∧ pos = .int .i64 (min (384 * k) n : Nat) ∧ But [] w7 wx) (fun _ bi _ => nblk n - (intOf bi).toNat)
      case atStart => exact ⟨0, by omega, rfl, by simp, But.refl _ _⟩
      case round =>
        obtain ⟨k, hk, rfl, rfl, hbx⟩ := hrel
        obtain ⟨wo, rfl⟩ : ∃ wo : World, wo = wr := ⟨_, rfl⟩
        by_cases hlt : k < nblk n
        · obtain ⟨bbx, bx, ⟨capx, ex⟩, cx1, hBx⟩ := (HRx.out.kept hbx).blk k (by rw [hlC]; exact hlt)
          obtain ⟨bby, by', ⟨capy, ey⟩, cy1, hBy⟩ := (HRy.out.kept hbx).blk k (by rw [hlD]; exact hlt)
          simp only [Value.slice.injEq, true_and] at ex ey
          obtain ⟨rfl, rfl⟩ := ex
          obtain ⟨rfl, rfl⟩ := ey
          unfold bval at cx1 cy1
          rw [hlC] at cx1
          rw [hlD] at cy1
          have hkn : 384 * k < n := by unfold nblk at hlt; omega
          have HPos : Hid (min (384 * (k + 1)) n = 384 * k + blen n k) := by show _ = _; unfold blen; omega
          have hbl : ((blen n k : Nat) : Int) = min 384 ((n : Int) - ((384 * k : Nat) : Int)) := by unfold blen; omega
          rw [show min (384 * k) n = 384 * k by omega]
          generalize hble : blen n k = bl at *
          go_upto_if 118 with fail
          go_cut [15] (fun want wc => want = .int .i64 (bl : Nat) ∧ wc = wo)
          case first =>
            rcases Int.lt_or_le 384 ((n : Int) - ((384 * k : Nat) : Int)) with hw | hw
            · go_wp2_with fail
              go_meet
              case rel => exact ⟨by congr 1; omega, rfl⟩
            · go_wp2_with fail
              go_meet
              case rel => exact ⟨by congr 1; omega, rfl⟩
          case rest =>
            obtain ⟨rfl, rfl⟩ := hcut
            have hbl2 : (bl : Int) ≤ 384 := by omega
            clear hbl
            go_wp2_with fail
            clear hq
            go_loopw [13, 16] (fun pos jv wx => ∃ j : Nat, j ≤ bl ∧ jv = .int .i64 j ∧ pos = .int .i64 (384 * k + j : Nat) ∧ But [] wc wx) (fun _ jv _ => bl - (intOf jv).toNat)
            case atStart => exact ⟨0, by omega, rfl, by simp, But.refl _ _⟩
            case round =>
              obtain ⟨j, hj, rfl, rfl, hbj⟩ := hrel
              by_cases hltj : j < bl
              · obtain ⟨hex, hey⟩ : j < (chunk C k).length ∧ j < (chunk D k).length := by rw [chunk_length, chunk_length, hlC, hlD, hble]; exact ⟨hltj, hltj⟩
                have ox := (hBx.kept hbj (by simp)).entry j hex
                have oy := (hBy.kept hbj (by simp)).entry j hey
                have gx : C[384 * k + j]? = some (chunk C k)[j] := by rw [← chunk_at C k j (by rw [hlC, hble]; exact hltj)]; exact List.getElem?_eq_getElem hex
                have gy : D[384 * k + j]? = some (chunk D k)[j] := by rw [← chunk_at D k j (by rw [hlD, hble]; exact hltj)]; exact List.getElem?_eq_getElem hey
                generalize (chunk C k)[j] = ce at *
                generalize (chunk D k)[j] = de at *
                obtain ⟨q1, q2, q3⟩ := HA.out _ _ _ gx gy
                obtain ⟨qx, tX⟩ := HC.out ce (List.mem_of_getElem? gx)
                obtain ⟨qy, tY⟩ := HD.out de (List.mem_of_getElem? gy)
                have dz := HDz.out de (List.mem_of_getElem? gy)
                have tX' := (tX.kept hbx (by simp)).kept hbj (by simp)
                have tY' := (tY.kept hbx (by simp)).kept hbj (by simp)
                rw [q1] at tX'
                rw [q2] at ox
                rw [q3] at oy
                obtain ⟨ox1, ox2⟩ := ox
                obtain ⟨oy1, oy2⟩ := oy
                have cxj := hbj.cell cx1 (by simp)
                have cyj := hbj.cell cy1 (by simp)
                generalize X de.tb = xs at *
                generalize ce.tb = tx at *
                generalize de.tb = ty at *
                clear q1 q2 q3 tX tY gx gy hex hey
                go_wp2_with fail
                refine (fields_any _ _ _).mono ?_
                rintro e wA ⟨rfl, bA⟩
                have cyA := bA.cell cyj (by simp)
                have oyA1 := bA.cell oy1 (by simp)
                have oyA2 := bA.cell oy2 (by simp)
                have tXA := tX'.kept bA (by simp)
                have tYA := tY'.kept bA (by simp)
                have bjA := hbj.own bA (by simp)
                clear cxj cyj ox1 ox2 oy1 oy2 tX' tY' hbj bA
                go_wp2_with fail
                refine (fields_any _ _ _).mono ?_
                rintro e wB ⟨rfl, bB⟩
                have tXB := tXA.kept bB (by simp)
                have tYB := tYA.kept bB (by simp)
                have bjB := bjA.own bB (by simp)
                clear cyA oyA1 oyA2 tXA tYA bjA bB
                go_wp2_with fail
                refine (txnXid_any ty xs qy wB tYB).mono ?_
                rintro e w' ⟨rfl, rfl⟩
                go_wp2_with fail
                refine (txnXid_any tx xs qx wB tXB).mono ?_
                rintro e w' ⟨rfl, rfl⟩
                go_wp2_with fail
                refine (zzKey_any xs wB dz).mono ?_
                rintro e w' ⟨rfl, rfl⟩
                go_wp2_with fail
                go_roundw
                case rel =>
                  have R : ∃ i : Nat, i ≤ bl ∧ Value.int .i64 ((j : Int) + 1) = .int .i64 i ∧ Value.int .i64 (384 * (k : Int) + (j : Int) + 1) = .int .i64 (384 * k + i : Nat) ∧ But [] wc wB := ⟨j + 1, by omega, by go_num, by go_num, bjB⟩
                  first
                    | exact R
                    | ((repeat apply Exists.intro); exact ⟨R, rfl⟩)
                case measure => simp [intOf]; omega
              · have hje : bl = j := by omega
                subst hje
                go_wp2_with fail
                go_roundw
                case rel => exact ⟨k + 1, by omega, by go_num, by rw [HPos.out], hbx.own hbj (by simp)⟩
                case measure => simp [intOf]; omega
        · have hke : k = nblk n := by omega
          subst hke
          rw [psum_all]
          go_wp2_with fail
          go_ret
          exact ⟨rfl, b9.own hbx (by simp)⟩

end Go.Proofs.Qxb6616291a
