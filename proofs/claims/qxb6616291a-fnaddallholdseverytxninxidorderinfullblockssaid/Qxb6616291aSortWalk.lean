import Derived.Test.Qxb6616291aRuns
namespace Go.Proofs.Qxb6616291a
open Go.RowKit

theorem info41 : (Try.prog.info? 41).map (fun i => (i.zero, i.size, i.bytes)) = some (some (.agg #[.int .u64 0, .pointer none]), 2, 16) := by kernel_rfl
theorem make_ents (m : Nat) (hm : m ≤ 131072) (w : World) :
    (Instr.makeSlice 37 (.int .i64 (m : Int)) (.int .i64 (m : Int))).run Try.prog w = .ok (.slice (some ⟨w.heap.size, 0, none⟩) m m) (w.alloc (.cells (madeCells #[.int .u64 0, .pointer none] (m * 2)) 41)) := by
  obtain ⟨i, hi, hz, hs, hb⟩ := info_parts info41
  have hr := run_make (P := Try.prog) w 37 41 i _ Try.underlying37 hi hz .i64 .i64 m m (by omega) (Int.le_refl _) (by rw [hb]; omega) (by omega)
  rw [hs] at hr
  simp only [Int.toNat_natCast] at hr
  exact hr

theorem slice_ents (f m i j : Nat) (hij : i < j) (hj : j ≤ m) (w : World) :
    (Instr.slice 37 (.slice (some ⟨f, 0, none⟩) m m) (some (.int .i64 (i : Int))) (some (.int .i64 (j : Int))) none).run Try.prog w = .ok (.slice (some ⟨f, i * 2, none⟩) (j - i) (m - i)) w := by
  have he : Try.prog.elem 37 = 41 := by kernel_rfl
  have hs : ∀ w, (sizeOf (Try.prog.elem 37)).run Try.prog w = .ok 2 w := fun w => by rw [he]; exact sizeOf41 w
  rw [run_slice_lh (P := Try.prog) w 37 _ _ _ (by rw [he]; exact Try.underlying37) .i64 .i64 _ _ (by omega) (by omega) (by omega), hs]
  have e2 := Go.WideShapes.add_plain f 0 (i * 2)
  simp only [Result.andThen, sliced, Int.toNat_natCast, Option.map_some, e2, Nat.zero_add]
  rw [if_neg (by omega)]

/-- Behind k elements of a pass: place u holds e. -/
def Placed (f : Ent → Nat) (L : List Ent) (k : Nat) (u : Nat) (e : Ent) : Prop := ∃ b j, b < 256 ∧ j < Rdx.cnt f L k b ∧ u = Rdx.start f L b + j ∧ (Rdx.pass f L)[u]? = some e
theorem Placed.none (f : Ent → Nat) (L : List Ent) (u : Nat) (e : Ent) (h : Placed f L 0 u e) : False := by
  obtain ⟨b, j, _, h2, _⟩ := h
  rw [Rdx.cnt_zero] at h2
  omega
theorem Placed.all (f : Ent → Nat) (L : List Ent) (hf : ∀ x ∈ L, f x < 256) (u : Nat) (e : Ent) (hu : u < L.length) (h : (Rdx.pass f L)[u]? = some e) : Placed f L L.length u e := by
  obtain ⟨b, j, h1, h2, h3⟩ := Rdx.cover f L 256 u (by rw [Rdx.start_all f L hf]; exact hu)
  exact ⟨b, j, h1, by rw [Rdx.cnt_all]; exact h2, h3, h⟩
theorem Placed.here (f : Ent → Nat) (L : List Ent) (k : Nat) (hk : k < L.length) (hb : f L[k] < 256) (e : Ent) (h : Placed f L (k + 1) (Rdx.start f L (f L[k]) + Rdx.cnt f L k (f L[k])) e) : e = L[k] := by
  obtain ⟨_, _, _, _, _, h4⟩ := h
  rw [Rdx.pass_next f L k hk hb] at h4
  exact (Option.some.inj h4).symm
theorem Placed.else_ (f : Ent → Nat) (L : List Ent) (k : Nat) (hk : k < L.length) (v : Nat) (e : Ent) (hv : v ≠ Rdx.start f L (f L[k]) + Rdx.cnt f L k (f L[k])) (h : Placed f L (k + 1) v e) : Placed f L k v e := by
  obtain ⟨b, j, h1, h2, h3, h4⟩ := h
  refine ⟨b, j, h1, ?_, h3, h4⟩
  rw [Rdx.cnt_succ f L k b hk] at h2
  by_cases c : f L[k] = b
  · subst c
    simp only [if_true] at h2
    omega
  · rw [if_neg c] at h2; omega

set_option maxHeartbeats 4000000 in
set_option maxRecDepth 100000 in
theorem sort_walk (eb : Nat) (L : List Ent) (X : Nat → ByteArray) (w : World) (hR : Row w eb L) (hm : L.length ≤ 131072) (hX : ∀ e ∈ L, ∃ q, Txn w e.tb (X e.tb) q) (hkey : ∀ e ∈ L, e.key = Ord.keyOf (X e.tb).data.toList) :
    Calls Try.prog 47 #[.slice (some ⟨eb, 0, none⟩) L.length L.length] w fun e w' => e = .returned (.tuple #[]) ∧ ∃ C : List Ent, C.Perm L ∧ C.Pairwise (leX X) ∧ Row w' eb C ∧ But [eb] w w' := by
  have hk : ∀ e ∈ L, 0 ≤ e.key ∧ e.key < 18446744073709551616 := fun e he => by rw [hkey e he]; exact Ord.keyOf_bd _
  have HX : Hid (∀ e ∈ L, ∃ q, Txn w e.tb (X e.tb) q) := hX
  have HKE : Hid (∀ e ∈ L, e.key = Ord.keyOf (X e.tb).data.toList) := hkey
  have HNE : Hid (∀ e ∈ L, e.tb ≠ eb) := fun e he => by
    obtain ⟨q, ht⟩ := hX e he
    obtain ⟨cs, hcs, _⟩ := hR
    exact ht.ne hcs (by decide)
  have HSK : Hid ((lsd L 8).Pairwise (fun a b => a.key ≤ b.key)) := lsd_keys L hk
  clear hX hkey
  have hmk := make_ents L.length hm
  have hlt0 := Part.lt hR
  have HL : Hid (∀ p, (lsd L p).length = L.length) := lsd_length L
  have HK : Hid (∀ p, ∀ e ∈ lsd L p, 0 ≤ e.key ∧ e.key < 18446744073709551616) := fun p e he => hk e ((lsd_perm L p).mem_iff.1 he)
  have hT : Part ((w.alloc (.cells (madeCells #[.int .u64 0, .pointer none] (L.length * 2)) 41)).drew) w.heap.size L.length (fun _ _ => False) := Part.made w L.length
  have hB : But [eb] w ((w.alloc (.cells (madeCells #[.int .u64 0, .pointer none] (L.length * 2)) 41)).drew) := ((But.refl _ _).alloc _).drew
  have hR2 : Row ((w.alloc (.cells (madeCells #[.int .u64 0, .pointer none] (L.length * 2)) 41)).drew) eb (lsd L 0) := Part.kept (bs := []) hR (((But.refl _ _).alloc _).drew) (by simp)
  have HT : Hid (Part ((w.alloc (.cells (madeCells #[.int .u64 0, .pointer none] (L.length * 2)) 41)).drew) w.heap.size L.length (fun _ _ => False)) := hT
  have HB : Hid (But [eb] w ((w.alloc (.cells (madeCells #[.int .u64 0, .pointer none] (L.length * 2)) 41)).drew)) := hB
  have HR2 : Hid (Row ((w.alloc (.cells (madeCells #[.int .u64 0, .pointer none] (L.length * 2)) 41)).drew) eb (lsd L 0)) := hR2
  clear hk hT hB hR2 hR
  generalize hlen : L.length = m at *
  have Hlen : Hid (L.length = m) := hlen
  clear hlen
  go_enter Try.func47, Try.ntmps47
  go_wp2
  go_region
  go_wp2
  generalize (w.alloc (.cells (madeCells #[.int .u64 0, .pointer none] (m * 2)) 41)).drew = w0 at HT HB HR2 ⊢
  go_loopw [2, 3, 4] (fun fr tt sh wr => ∃ p f g : Nat, p ≤ 8 ∧ sh = .int .i64 (8 * (p : Int)) ∧ fr = .slice (some ⟨f, 0, none⟩) m m ∧ tt = .slice (some ⟨g, 0, none⟩) m m ∧ Hid ((p % 2 = 0 ∧ f = eb ∧ g = w.heap.size) ∨ (p % 2 = 1 ∧ g = eb ∧ f = w.heap.size)) ∧ Row wr f (lsd L p) ∧ Part wr g m (fun _ _ => False) ∧ But [eb] w wr)
    (fun _ _ sh _ => (64 - intOf sh).toNat)
  case atStart => exact ⟨0, eb, w.heap.size, by omega, by simp, rfl, rfl, .inl ⟨rfl, rfl, rfl⟩, HR2.out, HT.out, HB.out⟩
  case round =>
    obtain ⟨p, f, g, hp, rfl, rfl, rfl, HP, hRr, hTr, hBr⟩ := hrel
    by_cases hlt : p < 8
    · go_wp2_with fail
      have hA0 := Tab.made wr
      have hb1 : But [] wr (wr.alloc (.cells Try.zeroCells122 122)) := (But.refl _ _).alloc _
      have hRa := Part.kept hRr hb1 (by simp)
      have hTa := Part.kept hTr hb1 (by simp)
      have hBa := hBr.own hb1 (by simp)
      have hAw : w.heap.size < wr.heap.size := by have := HB.out.size; have h1 := Part.lt HT.out; have h2 := HP.out; have h3 := Part.lt hRr; have h4 := Part.lt hTr; rcases h2 with ⟨_, _, e⟩ | ⟨_, _, e⟩ <;> omega
      have hl := HL.out p
      have HKp : Hid (∀ e ∈ lsd L p, 0 ≤ e.key ∧ e.key < 18446744073709551616) := HK.out p
      have hfA : f ≠ wr.heap.size := by have := Part.lt hRr; omega
      have hgA : g ≠ wr.heap.size := by have := Part.lt hTr; omega
      clear hRr hTr hBr hb1
      generalize wr.alloc (.cells Try.zeroCells122 122) = w1 at hA0 hRa hTa hBa ⊢
      generalize wr.heap.size = A at hA0 hAw hfA hgA ⊢
      generalize hLc : lsd L p = Lc at *
      have HLc : Hid (lsd L p = Lc) := hLc
      have Hl : Hid (Lc.length = m) := hl
      clear hLc hl
      go_loopw [26] (fun i wx => ∃ k : Nat, k ≤ m ∧ i = .int .i64 k ∧ Row wx f Lc ∧ Part wx g m (fun _ _ => False) ∧ Tab wx A (fun b => Rdx.cnt (byteAt (8 * p)) Lc k b) ∧ But [eb] w wx) (fun i _ => m - (intOf i).toNat)
      case atStart => exact ⟨0, by omega, rfl, hRa, hTa, hA0.congr (fun b _ => Rdx.cnt_zero _ _ _), hBa⟩
      case round =>
        obtain ⟨k, hk, rfl, hRx, hTx, hAx, hBx⟩ := hrel
        by_cases hkl : k < m
        · have hkL : k < Lc.length := by rw [Hl.out]; exact hkl
          obtain ⟨c1, c2⟩ := Row.entry hRx k hkL
          have hAl := hAx.lt
          have q1 := HKp.out Lc[k] (List.getElem_mem hkL)
          have q2 := Rdx.cnt_le_k (byteAt (8 * p)) Lc k (byteAt (8 * p) Lc[k])
          have c3 := hAx.cell (byteAt (8 * p) Lc[k]) (byteAt_lt _ _)
          have c4 := hAx.free (byteAt (8 * p) Lc[k])
          have st := hAx.stored (g' := fun b => Rdx.cnt (byteAt (8 * p)) Lc (k + 1) b) (byteAt (8 * p) Lc[k]) (Rdx.cnt (byteAt (8 * p)) Lc k (byteAt (8 * p) Lc[k]) + 1) (byteAt_lt _ _) (by rw [Rdx.cnt_succ _ _ _ _ hkL]; simp) (fun c _ hc => by rw [Rdx.cnt_succ _ _ _ _ hkL, if_neg (fun e => hc e.symm)]; rfl)
          have hst : But [A] wr (wr.setCell ⟨A, byteAt (8 * p) Lc[k], none⟩ (.int .i64 ((Rdx.cnt (byteAt (8 * p)) Lc k (byteAt (8 * p) Lc[k]) + 1 : Nat) : Int))) := (But.refl _ _).setCell (by simp) _
          have hfin : Row (wr.setCell ⟨A, byteAt (8 * p) Lc[k], none⟩ (.int .i64 ((Rdx.cnt (byteAt (8 * p)) Lc k (byteAt (8 * p) Lc[k]) + 1 : Nat) : Int))) f Lc ∧ Part (wr.setCell ⟨A, byteAt (8 * p) Lc[k], none⟩ (.int .i64 ((Rdx.cnt (byteAt (8 * p)) Lc k (byteAt (8 * p) Lc[k]) + 1 : Nat) : Int))) g m (fun _ _ => False) ∧ But [eb] w (wr.setCell ⟨A, byteAt (8 * p) Lc[k], none⟩ (.int .i64 ((Rdx.cnt (byteAt (8 * p)) Lc k (byteAt (8 * p) Lc[k]) + 1 : Nat) : Int))) :=
            ⟨Part.kept hRx hst (by simpa using hfA), Part.kept hTx hst (by simpa using hgA), hBx.own hst (by simp; omega)⟩
          rw [show (((Rdx.cnt (byteAt (8 * p)) Lc k (byteAt (8 * p) Lc[k]) + 1 : Nat)) : Int) = ((Rdx.cnt (byteAt (8 * p)) Lc k (byteAt (8 * p) Lc[k]) : Nat) : Int) + 1 from by omega] at st hfin
          generalize hcn : Rdx.cnt (byteAt (8 * p)) Lc k (byteAt (8 * p) Lc[k]) = cn at *
          clear hcn hst
          unfold byteAt at c3 c4
          have HS : Hid (Tab (wr.setCell ⟨A, byteAt (8 * p) Lc[k], none⟩ (.int .i64 ((cn : Int) + 1))) A (fun b => Rdx.cnt (byteAt (8 * p)) Lc (k + 1) b)) := st
          have HF : Hid (Row (wr.setCell ⟨A, byteAt (8 * p) Lc[k], none⟩ (.int .i64 ((cn : Int) + 1))) f Lc ∧ Part (wr.setCell ⟨A, byteAt (8 * p) Lc[k], none⟩ (.int .i64 ((cn : Int) + 1))) g m (fun _ _ => False) ∧ But [eb] w (wr.setCell ⟨A, byteAt (8 * p) Lc[k], none⟩ (.int .i64 ((cn : Int) + 1)))) := hfin
          clear st hfin hRx hTx hAx hBx
          go_wp2_with fail
          go_roundw
          case rel => exact ⟨k + 1, by omega, by go_num, Part.kept HF.out.1 ((But.refl [] _).alloc _) (by simp), Part.kept HF.out.2.1 ((But.refl [] _).alloc _) (by simp), HS.out.kept ((But.refl [] _).alloc _) (by simp), HF.out.2.2.own ((But.refl [] _).alloc _) (by simp)⟩
          case measure => simp [intOf]; omega
        · have hkm : m = k := by omega
          subst hkm
          have hcA : ∀ b, Rdx.cnt (byteAt (8 * p)) Lc m b = (Rdx.bin (byteAt (8 * p)) Lc b).length := fun b => by rw [← Hl.out]; exact Rdx.cnt_all _ _ _
          have HcA : Hid (∀ b, Rdx.cnt (byteAt (8 * p)) Lc m b = (Rdx.bin (byteAt (8 * p)) Lc b).length) := hcA
          clear hcA hkl hk
          obtain ⟨cs, k1, k2, k3⟩ := hAx
          have hAx : Tab wr A (fun b => Rdx.cnt (byteAt (8 * p)) Lc m b) := ⟨cs, k1, k2, k3⟩
          have HI : Hid (∀ (k : Nat), k < 256 → ∀ w, (Instr.index 122 (.agg cs) (.int .i64 (k : Int))).run Try.prog w = .ok (.int .i64 (Rdx.cnt (byteAt (8 * p)) Lc m k : Nat)) w) := fun k hk w => index122 cs k _ hk (k3 k hk) w
          have Hk3 : Hid (∀ b, b < 256 → cs[b]? = some (.int .i64 (Rdx.cnt (byteAt (8 * p)) Lc m b : Nat))) := k3
          have K1 : Hid (wr.heap[A]? = some (.cells cs 122 (0, 0))) := k1
          have K2 : Hid (cs.size = 256) := k2
          clear k1 k2 k3
          go_wp2_with (refine wpList_load_row rfl 122 _ rfl A rfl 122 cs (0, 0) _ K1.out Try.underlying122 rfl (by rw [K2.out]; exact size122) ?_)
          have HS3 : Hid (∀ k, k ≤ 256 → Rdx.start (byteAt (8 * p)) Lc k ≤ m) := fun k hk => by
            have h1 := Rdx.start_le (byteAt (8 * p)) Lc (256 - k) k
            rw [show k + (256 - k) = 256 by omega, Rdx.start_all _ _ (fun x _ => byteAt_lt _ x), Hl.out] at h1
            exact h1
          have HS4 : Hid (∀ k, Rdx.start (byteAt (8 * p)) Lc (k + 1) = Rdx.start (byteAt (8 * p)) Lc k + Rdx.cnt (byteAt (8 * p)) Lc m k) := fun k => by rw [Rdx.start_succ, HcA.out]
          clear K1 K2 Hk3
          go_loopw [8, 41] (fun nx i wx => ∃ k : Nat, k ≤ 256 ∧ i = .int .i64 k ∧ nx = .int .i64 (Rdx.start (byteAt (8 * p)) Lc k : Nat) ∧ Row wx f Lc ∧ Part wx g m (fun _ _ => False) ∧ Tab wx A (fun b => if b < k then Rdx.start (byteAt (8 * p)) Lc b else Rdx.cnt (byteAt (8 * p)) Lc m b) ∧ But [eb] w wx) (fun _ i _ => 256 - (intOf i).toNat)
          case atStart => exact ⟨0, by omega, rfl, rfl, hRx, hTx, hAx, hBx⟩
          case round =>
            obtain ⟨k, hk, rfl, rfl, hRx, hTx, hAx, hBx⟩ := hrel
            by_cases hk2 : k < 256
            · have hi := HI.out k hk2
              have s1 := HS3.out k hk
              have s2 := HS3.out (k + 1) (by omega)
              have s3 := HS4.out k
              have c3 := hAx.cell k hk2
              have c4 := hAx.free k
              simp only [if_neg (Nat.lt_irrefl k)] at c3
              have st := hAx.stored (g' := fun b => if b < k + 1 then Rdx.start (byteAt (8 * p)) Lc b else Rdx.cnt (byteAt (8 * p)) Lc m b) k (Rdx.start (byteAt (8 * p)) Lc k) hk2 (by simp) (fun c _ hc => by
                by_cases e : c < k
                · simp only [if_pos e, if_pos (show c < k + 1 by omega)]
                · simp only [if_neg e, if_neg (show ¬ c < k + 1 by omega)])
              have hst : But [A] wr (wr.setCell ⟨A, k, none⟩ (.int .i64 (Rdx.start (byteAt (8 * p)) Lc k : Nat))) := (But.refl _ _).setCell (by simp) _
              have HF : Hid (Row (wr.setCell ⟨A, k, none⟩ (.int .i64 (Rdx.start (byteAt (8 * p)) Lc k : Nat))) f Lc ∧ Part (wr.setCell ⟨A, k, none⟩ (.int .i64 (Rdx.start (byteAt (8 * p)) Lc k : Nat))) g m (fun _ _ => False) ∧ Tab (wr.setCell ⟨A, k, none⟩ (.int .i64 (Rdx.start (byteAt (8 * p)) Lc k : Nat))) A (fun b => if b < k + 1 then Rdx.start (byteAt (8 * p)) Lc b else Rdx.cnt (byteAt (8 * p)) Lc m b) ∧ But [eb] w (wr.setCell ⟨A, k, none⟩ (.int .i64 (Rdx.start (byteAt (8 * p)) Lc k : Nat)))) :=
                ⟨Part.kept hRx hst (by simpa using hfA), Part.kept hTx hst (by simpa using hgA), st, hBx.own hst (by simp; omega)⟩
              have S3 : Hid (Rdx.start (byteAt (8 * p)) Lc (k + 1) = Rdx.start (byteAt (8 * p)) Lc k + Rdx.cnt (byteAt (8 * p)) Lc m k) := s3
              have cb := Rdx.cnt_le_k (byteAt (8 * p)) Lc m k
              clear st hst hRx hTx hAx hBx s3 s2
              go_wp2_with fail
              go_roundw
              case rel => exact ⟨k + 1, by omega, by go_num, by rw [S3.out]; go_num, HF.out⟩
              case measure => simp [intOf]; omega
            · have hk3 : k = 256 := by omega
              subst hk3
              have hAy : Tab wr A (fun b => Rdx.start (byteAt (8 * p)) Lc b + Rdx.cnt (byteAt (8 * p)) Lc 0 b) := hAx.congr (fun b hb => by rw [Rdx.cnt_zero, if_pos hb]; rfl)
              clear hAx hk2 hk HI
              go_wp2_with fail
              go_loopw [54] (fun i wx => ∃ k : Nat, k ≤ m ∧ i = .int .i64 k ∧ Row wx f Lc ∧ Part wx g m (Placed (byteAt (8 * p)) Lc k) ∧ Tab wx A (fun b => Rdx.start (byteAt (8 * p)) Lc b + Rdx.cnt (byteAt (8 * p)) Lc k b) ∧ But [eb] w wx) (fun i _ => m - (intOf i).toNat)
              case atStart => exact ⟨0, by omega, rfl, hRx, hTx.weaken (fun u e _ h => (Placed.none _ _ u e h).elim), hAy, hBx⟩
              case round =>
                obtain ⟨k, hk, rfl, hRx, hTx, hAx, hBx⟩ := hrel
                by_cases hkl : k < m
                · have hkL : k < Lc.length := by rw [Hl.out]; exact hkl
                  obtain ⟨c1, c2⟩ := Row.entry hRx k hkL
                  have hAl := hAx.lt
                  have hgl := Part.lt hTx
                  have q1 := HKp.out Lc[k] (List.getElem_mem hkL)
                  have c3 := hAx.cell (byteAt (8 * p) Lc[k]) (byteAt_lt _ _)
                  have c4 := hAx.free (byteAt (8 * p) Lc[k])
                  have pl := Rdx.place_lt (byteAt (8 * p)) Lc k hkL (fun x _ => byteAt_lt _ x)
                  rw [Hl.out] at pl
                  obtain ⟨z, pz, c5, c6⟩ := hTx.cells _ pl
                  have c7 := hTx.free ((Rdx.start (byteAt (8 * p)) Lc (byteAt (8 * p) Lc[k]) + Rdx.cnt (byteAt (8 * p)) Lc k (byteAt (8 * p) Lc[k])) * 2)
                  have c8 := hTx.free ((Rdx.start (byteAt (8 * p)) Lc (byteAt (8 * p) Lc[k]) + Rdx.cnt (byteAt (8 * p)) Lc k (byteAt (8 * p) Lc[k])) * 2 + 1)
                  have st1 := hTx.stored (D' := Placed (byteAt (8 * p)) Lc (k + 1)) _ Lc[k] pl (fun e' h => Placed.here _ _ _ hkL (byteAt_lt _ _) e' h) (fun v e' hv h => Placed.else_ _ _ _ hkL v e' hv h)
                  have st2 : ∀ c, c < 256 → c ≠ byteAt (8 * p) Lc[k] → Rdx.start (byteAt (8 * p)) Lc c + Rdx.cnt (byteAt (8 * p)) Lc (k + 1) c = Rdx.start (byteAt (8 * p)) Lc c + Rdx.cnt (byteAt (8 * p)) Lc k c := fun c _ hc => by rw [Rdx.cnt_succ _ _ _ _ hkL, if_neg (fun e => hc e.symm)]; rfl
                  have st3 : Rdx.start (byteAt (8 * p)) Lc (byteAt (8 * p) Lc[k]) + Rdx.cnt (byteAt (8 * p)) Lc (k + 1) (byteAt (8 * p) Lc[k]) = Rdx.start (byteAt (8 * p)) Lc (byteAt (8 * p) Lc[k]) + Rdx.cnt (byteAt (8 * p)) Lc k (byteAt (8 * p) Lc[k]) + 1 := by rw [Rdx.cnt_succ _ _ _ _ hkL]; simp; omega
                  generalize hu : Rdx.start (byteAt (8 * p)) Lc (byteAt (8 * p) Lc[k]) + Rdx.cnt (byteAt (8 * p)) Lc k (byteAt (8 * p) Lc[k]) = u at *
                  have ST1 : Hid (Part ((wr.setCell ⟨g, u * 2, none⟩ (.int .u64 Lc[k].key)).setCell ⟨g, u * 2 + 1, none⟩ (.pointer (some ⟨Lc[k].tb, 0, none⟩))) g m (Placed (byteAt (8 * p)) Lc (k + 1))) := st1
                  have ST2 : Hid (∀ c, c < 256 → c ≠ byteAt (8 * p) Lc[k] → Rdx.start (byteAt (8 * p)) Lc c + Rdx.cnt (byteAt (8 * p)) Lc (k + 1) c = Rdx.start (byteAt (8 * p)) Lc c + Rdx.cnt (byteAt (8 * p)) Lc k c) := st2
                  have ST3 : Hid (Rdx.start (byteAt (8 * p)) Lc (byteAt (8 * p) Lc[k]) + Rdx.cnt (byteAt (8 * p)) Lc (k + 1) (byteAt (8 * p) Lc[k]) = u + 1) := st3
                  clear hu st1 st2 st3
                  unfold byteAt at c3 c4
                  have hAg : A ≠ g := fun e => hgA e.symm
                  go_wp2_with fail
                  go_region
                  go_wp2_with fail
                  go_roundw
                  case rel =>
                    have hfg : f ≠ g := by rcases HP.out with ⟨h1, h2, h3⟩ | ⟨h1, h2, h3⟩ <;> omega
                    have b1 : But [g] wr ((wr.setCell ⟨g, u * 2, none⟩ (.int .u64 Lc[k].key)).setCell ⟨g, u * 2 + 1, none⟩ (.pointer (some ⟨Lc[k].tb, 0, none⟩))) := ((But.refl _ _).setCell (by simp) _).setCell (by simp) _
                    have x1 := Part.kept hRx b1 (by simpa using hfg)
                    have x2 := ST1.out
                    have x3 := hAx.kept b1 (by simpa using hAg)
                    have x4 : But [eb] w _ := hBx.own b1 (by rcases HP.out with ⟨h1, h2, h3⟩ | ⟨h1, h2, h3⟩ <;> simp <;> omega)
                    generalize (wr.setCell ⟨g, u * 2, none⟩ (.int .u64 Lc[k].key)).setCell ⟨g, u * 2 + 1, none⟩ (.pointer (some ⟨Lc[k].tb, 0, none⟩)) = wy at x1 x2 x3 x4 ⊢
                    have y3 := x3.stored (g' := fun b => Rdx.start (byteAt (8 * p)) Lc b + Rdx.cnt (byteAt (8 * p)) Lc (k + 1) b) (byteAt (8 * p) Lc[k]) (u + 1) (byteAt_lt _ _) ST3.out (fun c h1 h2 => ST2.out c h1 h2)
                    have b2 : But [A] wy (wy.setCell ⟨A, byteAt (8 * p) Lc[k], none⟩ (.int .i64 ((u + 1 : Nat) : Int))) := (But.refl _ _).setCell (by simp) _
                    have y1 := Part.kept x1 b2 (by simpa using hfA)
                    have y2 := Part.kept x2 b2 (by simpa using hgA)
                    have y4 : But [eb] w _ := x4.own b2 (by simp; omega)
                    rw [show ((u + 1 : Nat) : Int) = (u : Int) + 1 from by omega] at y1 y2 y3 y4
                    have b3 : ∀ W : World, But [] W ((W.alloc (.cells #[.int .u64 Lc[k].key, .pointer (some ⟨Lc[k].tb, 0, none⟩)] 41)).drew) := fun W => ((But.refl _ _).alloc _).drew
                    exact ⟨k + 1, by omega, by go_num, Part.kept y1 (b3 _) (by simp), Part.kept y2 (b3 _) (by simp), y3.kept (b3 _) (by simp), y4.own (b3 _) (by simp)⟩
                  case measure => simp [intOf]; omega
                · have hkm : m = k := by omega
                  subst hkm
                  have hnext : Row wr g (lsd L (p + 1)) := by
                    have hl2 : (lsd L (p + 1)).length = m := HL.out (p + 1)
                    unfold Row
                    rw [hl2]
                    refine hTx.weaken (fun u e hu h => ?_)
                    have h' : (Rdx.pass (byteAt (8 * p)) Lc)[u]? = some e := by rw [← HLc.out]; exact h
                    have := Placed.all (byteAt (8 * p)) Lc (fun x _ => byteAt_lt _ x) u e (by rw [Hl.out]; exact hu) h'
                    rw [Hl.out] at this
                    exact this
                  have hback : Part wr f m (fun _ _ => False) := by
                    have := hRx
                    unfold Row at this
                    rw [Hl.out] at this
                    exact this.weaken (fun _ _ _ h => h.elim)
                  have Hnext : Hid (Row wr g (lsd L (p + 1))) := hnext
                  clear hnext hTx hRx hAx hkl hk
                  go_wp2_with fail
                  go_roundw
                  case rel => exact ⟨p + 1, g, f, by omega, by go_num, rfl, rfl, by
                    rcases HP.out with ⟨h1, h2, h3⟩ | ⟨h1, h2, h3⟩
                    · exact .inr ⟨by omega, h2, h3⟩
                    · exact .inl ⟨by omega, h2, h3⟩, Hnext.out, hback, hBx⟩
                  case measure => simp [intOf]; omega
    · have hp8 : p = 8 := by omega
      subst hp8
      have hfe : f = eb := by rcases HP.out with ⟨h1, h2, h3⟩ | ⟨h1, h2, h3⟩ <;> omega
      subst hfe
      have hl8 := HL.out 8
      have HSX : Hid (∀ C : List Ent, C.Perm (lsd L 8) → ∀ e ∈ C, ∃ q, Txn w e.tb (X e.tb) q) := fun C hC e he => HX.out e ((lsd_perm L 8).mem_iff.1 (hC.mem_iff.1 he))
      have HSE : Hid (∀ e ∈ lsd L 8, e.key = Ord.keyOf (X e.tb).data.toList) := fun e he => HKE.out e ((lsd_perm L 8).mem_iff.1 he)
      have HSN : Hid (∀ C : List Ent, C.Perm (lsd L 8) → ∀ e ∈ C, e.tb ≠ f) := fun C hC e he => HNE.out e ((lsd_perm L 8).mem_iff.1 (hC.mem_iff.1 he))
      have HPL : Hid ((lsd L 8).Perm L) := lsd_perm L 8
      generalize hS : lsd L 8 = S at *
      have HL8 : Hid (S.length = m) := hl8
      clear hS hl8 hTr HP HK HL hmk HT HR2 HB hlt hp
      go_wp2_with fail
      go_loopw [14] (fun ii wx => ∃ (i : Nat) (C : List Ent), i ≤ m ∧ ii = .int .i64 i ∧ Row wx f C ∧ Hid (Runs X S i C) ∧ But [f] w wx) (fun ii _ => m - (intOf ii).toNat)
      case atStart => exact ⟨0, S, by omega, rfl, hRr, Runs.start X S, hBr⟩
      case round =>
        obtain ⟨i, C, hi, rfl, hRx, HRI, hBx⟩ := hrel
        have hCl : C.length = m := by rw [HRI.out.len, HL8.out]
        have HCl : Hid (C.length = m) := hCl
        by_cases him : i < m
        · have HKF : Hid (∀ u, u < m → wr.cell? ⟨f, u * 2, none⟩ = some (.int .u64 (kf S u))) := fun u hu => by
            have h1 := (Row.entry hRx u (by omega)).1
            rwa [kf_at S C HRI.out.keys u (by omega)] at h1
          clear hCl
          go_wp2_with fail
          go_loopw [15] (fun jj wx => ∃ j : Nat, i + 1 ≤ j ∧ j ≤ m ∧ jj = .int .i64 j ∧ Hid (∀ v, i ≤ v → v < j → kf S v = kf S i) ∧ Row wx f C ∧ But [f] w wx ∧ Hid (∀ u, u < m → wx.cell? ⟨f, u * 2, none⟩ = some (.int .u64 (kf S u)))) (fun jj _ => m - (intOf jj).toNat)
          case atStart => exact ⟨i + 1, by omega, by omega, by go_num, fun v h1 h2 => by rw [show v = i by omega], hRx, hBx, HKF⟩
          case round =>
            obtain ⟨j, hj1, hj2, rfl, HJ, hRy, hBy, HKG⟩ := hrel
            by_cases hjm : j < m
            · have c1 := HKG.out j hjm
              have c2 := HKG.out i him
              by_cases hkk : kf S j = kf S i
              · have hb : (kf S j == kf S i) = true := beq_iff_eq.2 hkk
                have Hkk : Hid (kf S j = kf S i) := hkk
                clear hkk
                go_wp2_with fail
                go_quiet (fail)
                go_wp2_with fail
                go_roundw
                case rel => exact ⟨j + 1, by omega, by omega, by go_num, fun v h1 h2 => by
                  by_cases e : v = j
                  · rw [e]; exact Hkk.out
                  · exact HJ.out v h1 (by omega), hRy, hBy.drewN _, HKG⟩
                case measure => simp [intOf]; omega
              · have hb : (kf S j == kf S i) = false := beq_eq_false_iff_ne.2 hkk
                have Hkk : Hid (¬ kf S j = kf S i) := hkk
                clear hkk
                go_wp2_with fail
                go_quiet (fail)
                have HEND : Hid (j < S.length → kf S i < kf S j) := fun h => by
                  have h1 := kf_mono S HSK.out i j (by omega) h
                  have h2 := Hkk.out
                  omega
                by_cases hone : i + 1 < j
                · have HRun : Hid (Calls Try.prog 54 #[.slice (some ⟨f, i * 2, none⟩) (j - i) (m - i), .func (Fn.func 55) #[] #[]] (wr.drewN nq) fun e w' => e = .returned (.tuple #[]) ∧ ∃ R : List Ent, R.Perm ((C.drop i).take (j - i)) ∧ R.Pairwise (leX X) ∧ Row w' f (C.take i ++ R ++ C.drop (i + (j - i))) ∧ But [f] (wr.drewN nq) w') :=
                    sortRun f C X (wr.drewN nq) (by exact hRy) i (j - i) (m - i) (by omega) (by rw [HCl.out]; omega) (by rw [HCl.out]; exact hm) (fun e he => by
                      obtain ⟨q, ht⟩ := HSX.out C HRI.out.perm e he
                      exact ⟨q, ht.kept (hBy.drewN nq) (by simp; exact HSN.out C HRI.out.perm e he)⟩)
                  have hsl := slice_ents f m i j (by omega) hj2
                  go_wp2_with fail
                  refine (Calls.mono HRun.out) ?_
                  rintro e w3 ⟨rfl, R, r1, r2, r3, r4⟩
                  have HNX : Hid (Runs X S j (C.take i ++ R ++ C.drop (i + (j - i)))) := HRI.out.step HSK.out HSE.out j (by omega) (by rw [HL8.out]; exact hj2) HJ.out HEND.out R r1 r2
                  have hB3 : But [f] w w3 := (hBy.drewN nq).trans r4
                  clear hRy hBy r4 HRun
                  go_wp2_with fail
                  go_roundw
                  case rel => first | exact ⟨j, _, by omega, rfl, r3, HNX, hB3⟩ | ((repeat apply Exists.intro); exact ⟨⟨j, _, by omega, rfl, r3, HNX, hB3⟩, rfl⟩)
                  case measure => simp [intOf]; omega
                · have hj : j = i + 1 := by omega
                  subst hj
                  have HNX : Hid (Runs X S (i + 1) C) := HRI.out.one HSK.out HSE.out (by rw [HL8.out]; omega) HEND.out
                  go_wp2_with fail
                  go_roundw
                  case rel => exact ⟨i + 1, C, by omega, by go_num, hRy, HNX, hBy.drewN nq⟩
                  case measure => simp [intOf]; omega
            · have hd : decide ((j : Int) < (m : Int)) = false := by simp; omega
              go_wp2_with fail
              go_quiet (fail)
              have HEND : Hid (j < S.length → kf S i < kf S j) := fun h => by
                have := HL8.out
                omega
              by_cases hone : i + 1 < j
              · have HRun : Hid (Calls Try.prog 54 #[.slice (some ⟨f, i * 2, none⟩) (j - i) (m - i), .func (Fn.func 55) #[] #[]] (wr.drewN nq) fun e w' => e = .returned (.tuple #[]) ∧ ∃ R : List Ent, R.Perm ((C.drop i).take (j - i)) ∧ R.Pairwise (leX X) ∧ Row w' f (C.take i ++ R ++ C.drop (i + (j - i))) ∧ But [f] (wr.drewN nq) w') :=
                  sortRun f C X (wr.drewN nq) (by exact hRy) i (j - i) (m - i) (by omega) (by rw [HCl.out]; omega) (by rw [HCl.out]; exact hm) (fun e he => by
                    obtain ⟨q, ht⟩ := HSX.out C HRI.out.perm e he
                    exact ⟨q, ht.kept (hBy.drewN nq) (by simp; exact HSN.out C HRI.out.perm e he)⟩)
                have hsl := slice_ents f m i j (by omega) hj2
                go_wp2_with fail
                refine (Calls.mono HRun.out) ?_
                rintro e w3 ⟨rfl, R, r1, r2, r3, r4⟩
                have HNX : Hid (Runs X S j (C.take i ++ R ++ C.drop (i + (j - i)))) := HRI.out.step HSK.out HSE.out j (by omega) (by rw [HL8.out]; exact hj2) HJ.out HEND.out R r1 r2
                have hB3 : But [f] w w3 := (hBy.drewN nq).trans r4
                clear hRy hBy r4 HRun
                go_wp2_with fail
                go_roundw
                case rel => first | exact ⟨j, _, by omega, rfl, r3, HNX, hB3⟩ | ((repeat apply Exists.intro); exact ⟨⟨j, _, by omega, rfl, r3, HNX, hB3⟩, rfl⟩)
                case measure => simp [intOf]; omega
              · have hj : j = i + 1 := by omega
                subst hj
                have HNX : Hid (Runs X S (i + 1) C) := HRI.out.one HSK.out HSE.out (by rw [HL8.out]; omega) HEND.out
                go_wp2_with fail
                go_roundw
                case rel => exact ⟨i + 1, C, by omega, by go_num, hRy, HNX, hBy.drewN nq⟩
                case measure => simp [intOf]; omega
        · go_wp2_with fail
          go_end0
          have him' : i = S.length := by rw [HL8.out]; omega
          refine ⟨rfl, C, HRI.out.perm.trans HPL.out, ?_, hRx, hBx⟩
          have := HRI.out
          rw [him'] at this
          exact this.done

end Go.Proofs.Qxb6616291a
