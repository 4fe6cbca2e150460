import Derived.Test.Qxb6616291aFill
namespace Go.Proofs.Qxb6616291a
open Go.RowKit

/-- The slice a leads to the transactions tbs, for as many as l. -/
def ReadsT (w : World) (a : Option Addr) (l : Nat) (tbs : Nat → Nat) : Prop :=
  ∀ j, j < l → ∃ b o, a = some ⟨b, o, none⟩ ∧ w.cell? ⟨b, o + j, none⟩ = some (.pointer (some ⟨tbs j, 0, none⟩))
theorem ReadsT.kept {w w' : World} {a : Option Addr} {l : Nat} {tbs : Nat → Nat} (h : ReadsT w a l tbs) (hb : But [] w w') : ReadsT w' a l tbs := by
  intro j hj
  obtain ⟨b, o, e, hc⟩ := h j hj
  exact ⟨b, o, e, hb.cell hc (by simp)⟩

theorem Idx.free {w w' : World} {xb : Nat} {L : List Ent} (h : Idx w xb L) (hb : But [] w w') : w'.frozen? ⟨xb, 0, none⟩ = false := by
  obtain ⟨vv, hx1, _⟩ := h
  exact frozen_of_row w' xb 0 _ 106 (hb.get hx1 (by simp))

/-- The entry of a transaction. -/
def entOf (X : Nat → ByteArray) (tb : Nat) : Ent := ⟨Ord.keyOf (X tb).data.toList, tb⟩
def ents (X : Nat → ByteArray) (tbs : Nat → Nat) (l : Nat) : List Ent := (List.range l).map (fun j => entOf X (tbs j))
theorem ents_length (X : Nat → ByteArray) (tbs : Nat → Nat) (l : Nat) : (ents X tbs l).length = l := by simp [ents]
theorem ents_succ (X : Nat → ByteArray) (tbs : Nat → Nat) (l : Nat) : ents X tbs (l + 1) = ents X tbs l ++ [entOf X (tbs l)] := by simp [ents, List.range_succ]

theorem psum (m k : Nat) : min (384 * (k + 1)) m = min (384 * k) m + blen m k := by unfold blen; omega
theorem psum_all (m : Nat) : min (384 * nblk m) m = m := by unfold nblk; omega

/-- A slice's length, for a loop's measure. -/
def slen : Value → Nat
  | .slice _ q _ => q
  | _ => 0

theorem slice_to (G o b q : Nat) (hb : b ≤ q) (hb0 : 1 ≤ b) (w : World) :
    (Instr.slice 37 (.slice (some ⟨G, o, none⟩) q q) none (some (.int .i64 (b : Int))) none).run Try.prog w = .ok (.slice (some ⟨G, o, none⟩) b q) w := by
  have he : Try.prog.elem 37 = 41 := by kernel_rfl
  have hs : ∀ w, (sizeOf (Try.prog.elem 37)).run Try.prog w = .ok 2 w := fun w => by rw [he]; exact sizeOf41 w
  rw [run_slice_h (P := Try.prog) w 37 _ _ _ (by rw [he]; exact Try.underlying37) .i64 _ (by omega) (by omega), hs]
  simp only [Result.andThen, sliced, Int.toNat_natCast, Option.map_some, Nat.zero_mul, Nat.sub_zero]
  rw [if_neg (by omega), Go.WideShapes.add_plain, Nat.add_zero]
theorem slice_rest (G o b q : Nat) (hb : b ≤ q) (w : World) :
    (Instr.slice 37 (.slice (some ⟨G, o, none⟩) q q) (some (.int .i64 (b : Int))) none none).run Try.prog w = .ok (.slice (if q = b then some ⟨G, o, none⟩ else some ⟨G, o + b * 2, none⟩) (q - b) (q - b)) w := by
  have he : Try.prog.elem 37 = 41 := by kernel_rfl
  have hs : ∀ w, (sizeOf (Try.prog.elem 37)).run Try.prog w = .ok 2 w := fun w => by rw [he]; exact sizeOf41 w
  rw [run_slice_l (P := Try.prog) w 37 _ _ _ (by rw [he]; exact Try.underlying37) .i64 _ (by omega) (by omega), hs]
  simp only [Result.andThen, sliced, Int.toNat_natCast, Option.map_some, Go.WideShapes.add_plain]

set_option maxHeartbeats 4000000 in
set_option maxRecDepth 100000 in
theorem addAll_walk (xb : Nat) (L : List Ent) (a : Option Addr) (l c : Nat) (tbs : Nat → Nat) (X : Nat → ByteArray) (w : World) (hI : Idx w xb L) (hts : ReadsT w a l tbs)
    (hX : ∀ e ∈ L, ∃ q, Txn w e.tb (X e.tb) q) (hkey : ∀ e ∈ L, e.key = Ord.keyOf (X e.tb).data.toList) (hT : ∀ j, j < l → ∃ q, Txn w (tbs j) (X (tbs j)) q) (hb : L.length + l ≤ 131072) :
    Calls Try.prog 43 #[.pointer (some ⟨xb, 0, none⟩), .slice a l c] w fun e w' => e = .returned (.tuple #[]) ∧ ∃ C : List Ent, C.Perm (L ++ ents X tbs l) ∧ C.Pairwise (leX X) ∧ Idx w' xb C ∧ But [xb] w w' := by
  obtain ⟨v, hRd⟩ := hI.reads
  obtain ⟨va, vc, rfl⟩ := hRd.shape
  have HRd : Hid (Reads w xb L (.slice va (nblk L.length) vc)) := hRd
  have HI : Hid (Idx w xb L) := hI
  have HTs : Hid (ReadsT w a l tbs) := hts
  have HX : Hid (∀ e ∈ L, ∃ q, Txn w e.tb (X e.tb) q) := hX
  have HK : Hid (∀ e ∈ L, e.key = Ord.keyOf (X e.tb).data.toList) := hkey
  have HT : Hid (∀ j, j < l → ∃ q, Txn w (tbs j) (X (tbs j)) q) := hT
  have htop := hRd.top
  have hnb : nblk L.length ≤ 131072 := by unfold nblk; omega
  clear hRd hI hts hX hkey hT
  go_enter Try.func43, Try.ntmps43
  go_wp2_with fail
  go_loop [4, 20] (fun n i => ∃ k : Nat, k ≤ nblk L.length ∧ i = .int .i64 k ∧ n = .int .i64 (l + min (384 * k) L.length : Nat)) (fun _ i => nblk L.length - (intOf i).toNat)
  case atStart => exact ⟨0, by omega, rfl, by simp⟩
  case round =>
    obtain ⟨k, hk, rfl, rfl⟩ := hrel
    by_cases hlt : k < nblk L.length
    · obtain ⟨bb, b, ⟨cap, ev⟩, c1, hBR⟩ := HRd.out.blk k hlt
      simp only [Value.slice.injEq, true_and] at ev
      obtain ⟨rfl, rfl⟩ := ev
      unfold bval at c1
      have ps := psum L.length k
      have PS : Hid (min (384 * (k + 1)) L.length = min (384 * k) L.length + blen L.length k) := ps
      have pb : blen L.length k ≤ 384 := by unfold blen; omega
      have pm : min (384 * k) L.length ≤ L.length := Nat.min_le_right _ _
      clear ps
      generalize min (384 * k) L.length = s at *
      generalize blen L.length k = t at *
      go_wp2_with fail
      go_round
      case rel => exact ⟨k + 1, by omega, by go_num, by rw [PS.out]; go_num⟩
      case measure => simp [intOf]; omega
    · have hke : k = nblk L.length := by omega
      subst hke
      rw [psum_all]
      obtain ⟨i4, hi4, hz40, hz41, hz42⟩ := info_parts info41
      clear hk hlt
      go_wp2_with (at_make; refine wpList_make_own _ rfl _ _ 37 rfl w.heap.size 41 i4 _ 2 Try.underlying37 hi4 hz40 hz41 _ _ _ (L.length + l) rfl rfl (by omega) (by rw [hz42]; omega) (by unfold maxLen; omega) (Nat.le_refl _) ?_; intro w1 hown1 hgr1; have hb1 := But.of_grown hgr1; have ht1 := hb1.cell htop (by simp))
      go_loopw [7, 36] (fun en i wx => ∃ k : Nat, k ≤ nblk L.length ∧ i = .int .i64 k ∧ en = .slice (some ⟨w.heap.size, 0, none⟩) (min (384 * k) L.length) (L.length + l) ∧ wx.ownsRow w.heap.size 41 2 (.slice (some ⟨w.heap.size, 0, none⟩) (min (384 * k) L.length) (L.length + l)) (min (384 * k) L.length) (flat (L.take (384 * k))) ∧ But [] w wx) (fun _ i _ => nblk L.length - (intOf i).toNat)
      case atStart => exact ⟨0, by omega, rfl, by simp, by simpa [flat_nil] using hown1, hb1⟩
      case round =>
        obtain ⟨k, hk, rfl, rfl, hown, hbx⟩ := hrel
        by_cases hlt : k < nblk L.length
        · obtain ⟨bb, b, ⟨cap, ev⟩, c1, hBR⟩ := (HRd.out.kept hbx).blk k hlt
          simp only [Value.slice.injEq, true_and] at ev
          obtain ⟨rfl, rfl⟩ := ev
          unfold bval at c1
          have PS : Hid (min (384 * (k + 1)) L.length = min (384 * k) L.length + blen L.length k) := psum L.length k
          have pb : blen L.length k ≤ 384 := by unfold blen; omega
          have HN : Hid (∀ j u, (flat (chunk L k))[j]? = some u → wr.cell? ((⟨b, 0, none⟩ : Addr).add j) = some u) := by
            have h1 := hBR.news 0 (chunk L k).length (by omega)
            simp only [List.drop_zero, List.take_length, Nat.zero_mul] at h1
            exact h1
          have HTK : Hid (flat (L.take (384 * (k + 1))) = flat (L.take (384 * k)) ++ flat (chunk L k)) := by rw [take_chunk, flat_append]; rfl
          have HCL : Hid ((flat (chunk L k)).length = blen L.length k * 2) := by rw [flat_length, chunk_length]; rfl
          have pm2 : min (384 * k) L.length + blen L.length k ≤ L.length := by rw [← PS.out]; exact Nat.min_le_right _ _
          have HOC := flat_one_cell (chunk L k)
          go_wp2_with (at_builtin; refine wpList_append_fits _ rfl _ _ 37 rfl w.heap.size 41 i4 2 Try.underlying37 hi4 hz41 w.heap.size _ _ _ rfl hown ⟨b, 0, none⟩ (blen L.length k) 512 (flat (chunk L k)) rfl HCL.out HN.out HOC (by omega) ?_; intro w2 hown2 hgr2)
          rw [← PS.out, ← HTK.out] at hown2
          have hb2 : But [] w w2 := hbx.own (But.of_grown_some hgr2) (by simp)
          rw [← PS.out]
          go_wp2_with fail
          go_roundw
          case rel => exact ⟨k + 1, by omega, by go_num, rfl, hown2, hb2⟩
          case measure => simp [intOf]; omega
        · have hke : k = nblk L.length := by omega
          subst hke
          have htk : L.take (384 * nblk L.length) = L := List.take_of_length_le (by unfold nblk; omega)
          rw [psum_all, htk] at hown
          rw [psum_all]
          clear hk hlt htk hown1 hgr1 hb1 ht1
          go_wp2_with fail
          go_loopw [7, 46] (fun en i wx => ∃ k : Nat, k ≤ l ∧ i = .int .i64 k ∧ en = .slice (some ⟨w.heap.size, 0, none⟩) (L.length + k) (L.length + l) ∧ wx.ownsRow w.heap.size 41 2 (.slice (some ⟨w.heap.size, 0, none⟩) (L.length + k) (L.length + l)) (L.length + k) (flat (L ++ ents X tbs k)) ∧ But [] w wx) (fun _ i _ => l - (intOf i).toNat)
          case atStart => exact ⟨0, by omega, rfl, rfl, by simpa [ents] using hown, hbx⟩
          case round =>
            obtain ⟨k, hk, rfl, rfl, hown, hbx⟩ := hrel
            by_cases hlt : k < l
            · obtain ⟨tsb, tso, rfl, c1⟩ := (HTs.out.kept hbx) k hlt
              obtain ⟨q, htx⟩ := HT.out k hlt
              have c2 := (htx.kept hbx (by simp)).xid
              go_wp2_with fail
              refine (xidKey_any _ _).mono ?_
              rintro e w2 ⟨rfl, hb2⟩
              have hown2 := (hown.kept hb2.grown (.inr (by simp [Value.ownBlock]))).alloc (.cells #[.int .u64 (Ord.keyOf (X (tbs k)).data.toList), .pointer (some ⟨tbs k, 0, none⟩)] 41)
              have HN : Hid (∀ j u, (flat [entOf X (tbs k)])[j]? = some u → (w2.alloc (.cells #[.int .u64 (Ord.keyOf (X (tbs k)).data.toList), .pointer (some ⟨tbs k, 0, none⟩)] 41)).cell? ((⟨w2.heap.size, 0, none⟩ : Addr).add j) = some u) := by
                intro j u hu
                rw [Go.WideShapes.add_plain, Nat.zero_add, cell_of_row _ _ _ _ 41 (0, 0) (heap_alloc_new w2 _)]
                rw [flat_one] at hu
                rw [← hu]
                simp [entOf]
              have HE : Hid (flat (L ++ ents X tbs (k + 1)) = flat (L ++ ents X tbs k) ++ flat [entOf X (tbs k)]) := by rw [ents_succ, ← List.append_assoc, flat_append (L ++ ents X tbs k)]; rfl
              have HOC := flat_one_cell [entOf X (tbs k)]
              have hb3 : But [] w w2 := hbx.own hb2 (by simp)
              clear hown
              go_wp2_with (at_builtin; refine wpList_append_fits _ rfl _ _ 37 rfl w.heap.size 41 i4 2 Try.underlying37 hi4 hz41 w.heap.size _ _ _ rfl hown2 ⟨w2.heap.size, 0, none⟩ 1 1 (flat [entOf X (tbs k)]) rfl rfl HN.out HOC (by omega) ?_; intro w3 hown3 hgr3)
              rw [← HE.out] at hown3
              have hb4 : But [] w w3 := (hb3.alloc _).own (But.of_grown_some hgr3) (by simp)
              go_wp2_with fail
              go_roundw
              case rel => exact ⟨k + 1, by omega, by go_num, rfl, hown3, hb4⟩
              case measure => simp [intOf]; omega
            · have hke : l = k := by omega
              subst hke
              have hEl : (L ++ ents X tbs l).length = L.length + l := by rw [List.length_append, ents_length]
              have hRow : Row wr w.heap.size (L ++ ents X tbs l) := row_of_owns hown hEl
              have hEX : ∀ e ∈ L ++ ents X tbs l, ∃ q, Txn wr e.tb (X e.tb) q := fun e he => by
                rcases List.mem_append.1 he with h | h
                · obtain ⟨q, ht⟩ := HX.out e h
                  exact ⟨q, ht.kept hbx (by simp)⟩
                · simp only [ents, List.mem_map, List.mem_range] at h
                  obtain ⟨j, hj, rfl⟩ := h
                  obtain ⟨q, ht⟩ := HT.out j hj
                  exact ⟨q, ht.kept hbx (by simp)⟩
              have hEK : ∀ e ∈ L ++ ents X tbs l, e.key = Ord.keyOf (X e.tb).data.toList := fun e he => by
                rcases List.mem_append.1 he with h | h
                · exact HK.out e h
                · simp only [ents, List.mem_map, List.mem_range] at h
                  obtain ⟨j, hj, rfl⟩ := h
                  rfl
              have HS := sort_walk w.heap.size (L ++ ents X tbs l) X wr hRow (by rw [hEl]; exact hb) hEX hEK
              rw [hEl] at HS
              have HSo : Hid (Calls Try.prog 47 #[.slice (some ⟨w.heap.size, 0, none⟩) (L.length + l) (L.length + l)] wr fun e w' => e = .returned (.tuple #[]) ∧ ∃ C : List Ent, C.Perm (L ++ ents X tbs l) ∧ C.Pairwise (leX X) ∧ Row w' w.heap.size C ∧ But [w.heap.size] wr w') := HS
              clear HS hRow hEX hEK hown hlt hk
              go_wp2_with fail
              refine (Calls.mono HSo.out) ?_
              rintro e w4 ⟨rfl, C, hCp, hCs, hCR, hb4⟩
              have hCl : C.length = L.length + l := by rw [hCp.length_eq, hEl]
              have hb5 : But [] w w4 := hbx.own hb4 (by simp)
              have HCp : Hid (C.Perm (L ++ ents X tbs l)) := hCp
              have HCs : Hid (C.Pairwise (leX X)) := hCs
              clear hCp hCs hEl HSo hb4 hbx
              generalize hm : L.length + l = m at *
              have HCl : Hid (C.length = m) := hCl
              clear hCl
              obtain ⟨i5, hi5, hz50, hz51, hz52⟩ := info_parts info37
              have ht5 := hb5.cell htop (by simp)
              go_wp2_with (at_make; refine wpList_make_own _ rfl _ _ 34 rfl w.heap.size 37 i5 _ 1 Try.underlying34 hi5 hz50 hz51 _ _ _ (nblk m) rfl rfl (by unfold nblk; omega) (by rw [hz52]; unfold nblk; omega) (by unfold maxLen nblk; omega) hb5.size ?_; intro w6 hown6 hgr6; have hb6 := But.of_grown hgr6; have ht6 := hb6.cell ht5 (by simp); have hf6 := Idx.free HI.out (hb5.own hb6 (by simp)))
              have hGx : w.heap.size ≠ xb := by obtain ⟨vv, hx1, _⟩ := HI.out; have := (Array.getElem?_eq_some_iff.1 hx1).1; omega
              have hfill : Fill w (w6.setCell ⟨xb, 0, none⟩ (.slice (some ⟨w4.heap.size, 0, none⟩) 0 (nblk m))) xb w.heap.size w4.heap.size m 0 C (fun _ => 0) := by
                obtain ⟨vv, hx1, _⟩ := HI.out
                have hx6 := (hb5.own hb6 (by simp)).get hx1 (by simp)
                have b7 : But [xb] w6 (w6.setCell ⟨xb, 0, none⟩ (.slice (some ⟨w4.heap.size, 0, none⟩) 0 (nblk m))) := (But.refl _ _).setCell (by simp) _
                have hxl : xb < w4.heap.size := World.block_lt_of_cell? w4 _ ht5
                refine ⟨?_, ?_, ?_, fun i hi => by omega, ?_⟩
                · have := heap_setCell_same w6 xb 0 _ 106 (.slice (some ⟨w4.heap.size, 0, none⟩) 0 (nblk m)) hx6
                  simpa using this
                · exact ((Row.brow hCR).kept hb6 (by simp)).kept b7 (by simpa using hGx)
                · refine ⟨hown6.1, ?_⟩
                  rcases hown6.2 with ⟨h', _⟩ | ⟨g', cap', cur, h', q1, q2, q3⟩
                  · simp at h'
                  · refine .inr ⟨g', cap', cur, h', q1, ?_, q3⟩
                    simp only [Value.slice.injEq, Option.some.injEq, Addr.mk.injEq, and_true, true_and] at h'
                    obtain ⟨rfl, rfl⟩ := h'
                    exact b7.get q2 (by simp; omega)
                · exact ((hb5.own hb6 (by simp)).mono (by simp)).trans b7
              have HFill : Hid (Fill w (w6.setCell ⟨xb, 0, none⟩ (.slice (some ⟨w4.heap.size, 0, none⟩) 0 (nblk m))) xb w.heap.size w4.heap.size m 0 C (fun _ => 0)) := hfill
              generalize hBBn : w4.heap.size = BB at *
              clear hfill hown6 hgr6 hb6 ht6 hf6 hCR hb5 ht5 hBBn
              generalize w6.setCell ⟨xb, 0, none⟩ (.slice (some ⟨BB, 0, none⟩) 0 (nblk m)) = w7 at HFill ⊢
              have hm' : m ≤ 131072 := hb
              clear hm
              have hmk := make512
              go_loopw [7] (fun en wx => ∃ (r : Nat) (Bs : Nat → Nat) (A : Option Addr), r ≤ nblk m ∧ en = .slice A (m - min (384 * r) m) (m - min (384 * r) m) ∧ Hid (384 * r < m → A = some ⟨w.heap.size, 384 * r * 2, none⟩) ∧ Hid (Fill w wx xb w.heap.size BB m r C Bs)) (fun en _ => slen en)
              case atStart => exact ⟨0, _, some ⟨w.heap.size, 0, none⟩, by omega, by simp, fun _ => by simp, HFill⟩
              case round =>
                obtain ⟨r, Bs, A, hr, rfl, HA, HF⟩ := hrel
                by_cases hlt : 384 * r < m
                · obtain rfl := HA.out hlt
                  obtain ⟨w2, w3, hrun2, hrun3, htop2, htop3, hF'⟩ := HF.out.round HCl.out hlt hGx (m - min (384 * r) m)
                  have hbq : blen m r ≤ m - min (384 * r) m := by unfold blen; omega
                  have hb0 : 1 ≤ blen m r := by unfold blen; omega
                  have hb3 : blen m r ≤ 384 := by unfold blen; omega
                  have hs1 := slice_to w.heap.size (384 * r * 2) (blen m r) (m - min (384 * r) m) hbq hb0
                  have hs2 := slice_rest w.heap.size (384 * r * 2) (blen m r) (m - min (384 * r) m) hbq
                  have HBL : Hid (blen m r = min 384 (m - 384 * r)) := rfl
                  have HQ : Hid (m - min (384 * r) m = m - 384 * r) := by show _ = _; omega
                  have ctop := cell_of_row wr xb 0 _ 106 (0, 0) HF.out.top
                  have ctop2 := cell_of_row w2 xb 0 _ 106 (0, 0) htop2
                  have ctop3 := cell_of_row w3 xb 0 _ 106 (0, 0) htop3
                  have fr3 := frozen_of_row w3 xb 0 _ 106 htop3
                  simp only [List.getElem?_toArray, List.getElem?_cons_zero] at ctop ctop2 ctop3
                  have hmin : min ((m - min (384 * r) m : Nat) : Int) 384 = ((blen m r : Nat) : Int) := by rw [HBL.out]; omega
                  have hx2 : xb < w2.heap.size := World.block_lt_of_cell? w2 _ ctop2
                  have hx1 : xb < wr.heap.size := World.block_lt_of_cell? wr _ ctop
                  have HF' : Hid (Fill w (w3.setCell ⟨xb, 0, none⟩ (.slice (some ⟨BB, 0, none⟩) (r + 1) (nblk m))) xb w.heap.size BB m (r + 1) C (fun i => if i = r then wr.heap.size else Bs i)) := hF'
                  have HLt : Hid (384 * r < m) := hlt
                  have hqp : 0 < m - min (384 * r) m := by omega
                  have hqm : m - min (384 * r) m ≤ 131072 := by omega
                  clear hF' htop2 htop3
                  generalize hq : m - min (384 * r) m = q at *
                  generalize blen m r = bl at *
                  clear hq
                  go_upto_region 21 with fail
                  go_region_law (first | (refine step_append_run rfl (.tmp 83) (.tmp 86) 37 rfl _ _ _ rfl rfl w2 hrun2 ?_) | (refine step_append_run rfl (.tmp 82) (.tmp 88) 34 rfl _ _ _ rfl rfl w3 hrun3 ?_))
                  all_goals
                    go_wp2_with fail
                    go_roundw
                    case rel =>
                      have e1 := HQ.out
                      have e2 := HBL.out
                      have e3 := HLt.out
                      have hsz : m - min (384 * (r + 1)) m = q - bl := by omega
                      refine ⟨r + 1, _, _, by unfold nblk; omega, by rw [hsz], fun h => ?_, HF'⟩
                      rw [if_neg (by omega), show 384 * r * 2 + bl * 2 = 384 * (r + 1) * 2 by omega]
                    case measure => simp [slen]; omega
                · have hq0 : m - min (384 * r) m = 0 := by omega
                  rw [hq0]
                  go_wp2_with fail
                  go_end0
                  have hrn : r = nblk m := by unfold nblk at hr ⊢; omega
                  subst hrn
                  exact ⟨rfl, C, HCp.out, HCs.out, HF.out.done HCl.out, HF.out.old⟩
end Go.Proofs.Qxb6616291a
