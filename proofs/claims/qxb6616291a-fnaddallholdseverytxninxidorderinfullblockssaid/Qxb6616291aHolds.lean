import Derived.Test.Qxb6616291aLess
import Derived.LaidEqlPtr
/-! THE LAW OF FULL BLOCKS IN ORDER. -/
namespace Go.Proofs.Qxb6616291a
open Go.RowKit

theorem info4 : (Try.prog.info? 4).map (fun i => (i.zero, i.size, i.bytes)) = some (some (.bool false), 1, 1) := by kernel_rfl

theorem info104 : (Try.prog.info? 104).map (fun i => i.size) = some 20 := by kernel_rfl
/-- A transaction is itself. -/
theorem neq_same (a : Addr) (w : World) : (binOp .neq 27 (.pointer (some a)) (.pointer (some a))).run Try.prog w = .ok (.bool false) w := by
  obtain ⟨j, hj, _⟩ := Option.map_eq_some_iff.1 info104
  have h : ∀ d : Nat, (Op.equalIn (d + 1) 27 (.pointer (some a)) (.pointer (some a))).run Try.prog w = .ok true w := fun d => by
    simp [Op.equalIn, run_underlying Try.underlying27, sizeOf, typeInfo, hj, run_sameAddr_same]
  simp only [binOp]
  simp [Op.equal, Op.maxDepth, h 9999]

/-- The slice behind k rounds. -/
structure One (w wx : World) (pb n k : Nat) (S : Nat → ByteArray) (P : Nat → Nat) : Prop where
  p : TRow wx pb n P k
  t : ∀ j, j < k → Txn wx (P j) (S j) j
  old : But [] w wx
  hp : w.heap.size ≤ pb
theorem One.more {w wx wA : World} {pb n k : Nat} {S : Nat → ByteArray} {P : Nat → Nat} (h : One w wx pb n k S P) (hk : k < n) (hb : But [] wx wA) (tb : Nat) (ht : Txn wA tb (S k) k) :
    One w (wA.setCell ⟨pb, k, none⟩ (.pointer (some ⟨tb, 0, none⟩))) pb n (k + 1) S (fun j => if j = k then tb else P j) := by
  have hpA := h.p.kept hb (by simp)
  have b2 : But [pb] wA (wA.setCell ⟨pb, k, none⟩ (.pointer (some ⟨tb, 0, none⟩))) := (But.refl _ _).setCell (by simp) _
  refine ⟨hpA.stored hk tb, fun j hj => ?_, (h.old.own hb (by simp)).own b2 (by simpa using h.hp), h.hp⟩
  by_cases e : j = k
  · subst e; simp only [if_pos]; exact ht.kept b2 (by simpa using hpA.ne_txn ht)
  · simp only [if_neg e]
    have t := (h.t j (by omega)).kept hb (by simp)
    exact t.kept b2 (by simpa using hpA.ne_txn t)
theorem One.inj {w wx : World} {pb n : Nat} {S : Nat → ByteArray} {P : Nat → Nat} (h : One w wx pb n n S P) : ∀ i j, i < n → j < n → P i = P j → i = j := by
  intro i j hi hj e
  have h1 := (h.t i hi).seq
  have h2 := (h.t j hj).seq
  rw [e, h2] at h1
  simp at h1
  omega

set_option maxHeartbeats 4000000 in
set_option maxRecDepth 100000 in
theorem holds_walk (a1 a2 : Option Addr) (l1 c1 l2 c2 : Nat) (S1 S2 : Nat → ByteArray) (w : World) (h1 : ReadsS w a1 l1 S1) (h2 : ReadsS w a2 l2 S2) (b1 : l1 ≤ 9223372036854775807) (b2 : l2 ≤ 9223372036854775807) (s1 : ∀ j, j < l1 → (S1 j).size ≤ 9223372036854775807) (s2 : ∀ j, j < l2 → (S2 j).size ≤ 9223372036854775807) :
    Calls Try.prog 3 #[.slice a1 l1 c1, .slice a2 l2 c2] w fun e w' => e = .returned (.bool true) ∧ But [] w w' := by
  have H1 : Hid (ReadsS w a1 l1 S1) := h1
  have H2 : Hid (ReadsS w a2 l2 S2) := h2
  have G1 : Hid (∀ j, j < l1 → (S1 j).size ≤ 9223372036854775807) := s1
  have G2 : Hid (∀ j, j < l2 → (S2 j).size ≤ 9223372036854775807) := s2
  clear h1 h2 s1 s2
  have W : Hid (∀ wx, But [] w wx → ReadsS wx a1 l1 S1 ∧ ReadsS wx a2 l2 S2) := fun wx hb => ⟨H1.out.kept (hb.below (Nat.le_refl _) (by simp)), H2.out.kept (hb.below (Nat.le_refl _) (by simp))⟩
  go_enter Try.func3, Try.ntmps3
  go_wp2_with fail
  refine (zzBytes7 a1 a2 l1 c1 l2 c2 S1 S2 w H1.out H2.out b1 b2 G1.out G2.out).mono ?_
  rintro e w' ⟨⟨g, rfl⟩, rfl⟩
  cases g
  · go_wp2_with fail
    go_ret
    exact ⟨rfl, But.refl _ _⟩
  by_cases t1 : (65536 : Int) < (l1 : Int)
  · go_wp2_with fail
    go_ret
    exact ⟨rfl, But.refl _ _⟩
  by_cases t2 : (65536 : Int) < (l2 : Int)
  · go_wp2_with fail
    go_ret
    exact ⟨rfl, But.refl _ _⟩
  go_wp2_with fail
  refine (stringsBytes_any a1 l1 c1 S1 0 w H1.out G1.out b1 (by omega) (by omega)).mono ?_
  rintro e w' ⟨⟨r, r1, r2, rfl⟩, rfl⟩
  go_wp2_with fail
  refine (stringsBytes_any a2 l2 c2 S2 r w H2.out G2.out b2 r1 r2).mono ?_
  rintro e w' ⟨⟨r', r3, r4, rfl⟩, rfl⟩
  by_cases t3 : (1048576 : Int) < r'
  · go_wp2_with fail
    go_ret
    exact ⟨rfl, But.refl _ _⟩
  clear r1 r2 r3 r4 b1 b2 H1 H2
  go_wp2_with fail
  have hT9 := txnSlice_any (l1 + l2) w (by omega) (fun _ => 0)
  simp only [Int.natCast_add] at hT9
  refine hT9.mono ?_
  rintro e w2 ⟨rfl, hp1, hb1⟩
  clear hT9
  have HB : Hid (One w w2 w.heap.size (l1 + l2) 0 (cat l1 S1 S2) (fun _ => 0)) := ⟨hp1, fun j hj => by omega, hb1, Nat.le_refl _⟩
  clear hp1 hb1
  generalize hpbe : w.heap.size = pb at *
  go_wp2_with fail
  go_loopw [7] (fun i wx => ∃ (k : Nat) (P : Nat → Nat), k ≤ l1 + l2 ∧ i = .int .i64 k ∧ One w wx pb (l1 + l2) k (cat l1 S1 S2) P) (fun i _ => l1 + l2 - (intOf i).toNat)
  case atStart => exact ⟨0, _, by omega, rfl, HB⟩
  case round =>
    obtain ⟨k, P, hk, rfl, hB⟩ := hrel
    by_cases hlt : k < l1 + l2
    · have HBk : Hid (One w wr pb (l1 + l2) k (cat l1 S1 S2) P) := hB
      clear hB
      go_wp2_with fail
      refine (xidAt_cat a1 a2 l1 c1 l2 c2 S1 S2 k wr (W.out wr HBk.out.old).1 (W.out wr HBk.out.old).2 hlt (by omega) (by omega)).mono ?_
      rintro e w' ⟨rfl, rfl⟩
      go_wp2_with fail
      refine (newTxn_made _ _ _).mono ?_
      rintro e wA ⟨rfl, hTA, hbA⟩
      obtain ⟨pc, hpc⟩ := (HBk.out.p.kept hbA (by simp)).cell k hlt
      have hfc := (HBk.out.p.kept hbA (by simp)).free k
      have HN : Hid (One w (wA.setCell ⟨pb, k, none⟩ (.pointer (some ⟨wr.heap.size, 0, none⟩))) pb (l1 + l2) (k + 1) (cat l1 S1 S2) (fun j => if j = k then wr.heap.size else P j)) := HBk.out.more hlt hbA _ hTA
      go_wp2_with fail
      go_roundw
      case rel => exact ⟨k + 1, _, by omega, by go_num, HN⟩
      case measure => simp [intOf]; omega
    · have hke : k = l1 + l2 := by omega
      subst hke
      clear hlt hk
      go_wp2_with fail
      refine (newIndex_any wr).mono ?_
      rintro e w3 ⟨rfl, hw3⟩
      have hI3 : Idx w3 wr.heap.size [] := by rw [hw3]; exact Idx.fresh wr
      have b3 : But [] wr w3 := by rw [hw3]; exact (But.refl _ _).alloc _
      have HXP : Hid (∀ j, j < l1 + l2 → xidIn wr (P j) = cat l1 S1 S2 j) := fun j hj => xidIn_of (hB.t j hj)
      have HBn : Hid (One w wr pb (l1 + l2) (l1 + l2) (cat l1 S1 S2) P) := hB
      clear hw3 hB
      generalize hxbe : wr.heap.size = xb at *
      generalize hXe : xidIn wr = X at *
      clear hXe
      have hs1 := part_to pb l1 (l1 + l2) (by omega)
      obtain ⟨A, hAa, hs2⟩ : ∃ A : Option Addr, (0 < l2 → A = some ⟨pb, l1, none⟩) ∧ ∀ w, (Instr.slice 25 (.slice (some ⟨pb, 0, none⟩) (l1 + l2) (l1 + l2)) (some (.int .i64 (l1 : Int))) none none).run Try.prog w = .ok (.slice A l2 l2) w := by
        refine ⟨if l1 + l2 = l1 then some ⟨pb, 0, none⟩ else some ⟨pb, l1, none⟩, fun h => if_neg (by omega), fun w => ?_⟩
        have := part_rest pb l1 (l1 + l2) (by omega) w
        rw [show l1 + l2 - l1 = l2 by omega] at this
        exact this
      go_wp2_with fail
      refine (addAll_fresh xb pb (l1 + l2) l1 (l1 + l2) P X (cat l1 S1 S2) w3 hI3 (HBn.out.p.kept b3 (by simp)) (fun j hj => (HBn.out.t j hj).kept b3 (by simp)) HXP.out (by omega) (by omega)).mono ?_
      rintro e w4 ⟨rfl, C1, hC1, _, hI4, b4⟩
      have b4' : But [] wr w4 := b3.own b4 (by simp; omega)
      clear hI3 b4
      go_wp2_with fail
      refine (addAll_more xb pb l1 l2 l2 P X (cat l1 S1 S2) w4 C1 _ hI4 hC1 (HBn.out.p.kept b4' (by simp)) (fun j hj => (HBn.out.t j hj).kept b4' (by simp)) HXP.out hAa (by omega)).mono ?_
      rintro e w5 ⟨rfl, C, hC, sC, hI5, b5⟩
      have b5' : But [] wr w5 := b4'.own b5 (by simp; omega)
      clear hI4 b5 b4' b3 hC1
      obtain ⟨vx, hRx⟩ := hI5.reads
      have hlC : C.length = l1 + l2 := by rw [hC.length_eq, ents_length]
      obtain ⟨σ, hσ⟩ := order_exists X (cat l1 S1 S2) P (l1 + l2) C hC sC HXP.out HBn.out.inj
      have HS : Hid (Order X (cat l1 S1 S2) P (l1 + l2) C σ) := hσ
      have HT : Hid (∀ j, j < l1 + l2 → Txn w5 (P j) (cat l1 S1 S2 j) j) := fun j hj => (HBn.out.t j hj).kept b5' (by simp)
      have HP5 : Hid (TRow w5 pb (l1 + l2) P (l1 + l2)) := HBn.out.p.kept b5' (by simp)
      have HRx : Hid (Reads w5 xb C vx) := hRx
      have htx := hRx.top
      obtain ⟨ax, cx, rfl⟩ := hRx.shape
      have b9 : But [] w w5 := HBn.out.old.own b5' (by simp)
      have HSz : Hid (∀ i, i < l1 + l2 → (cat l1 S1 S2 i).size ≤ 9223372036854775807) := fun i hi => by
        unfold cat; split
        · exact G1.out i (by omega)
        · exact G2.out _ (by omega)
      have hL1 : l1 ≤ 65536 := by omega
      have hL2 : l2 ≤ 65536 := by omega
      have HXid : Hid (∀ i wx, i < l1 + l2 → But [] w wx → Calls Try.prog 11 #[.slice a1 l1 c1, .slice a2 l2 c2, .int .i64 (i : Nat)] wx fun e w' => e = .returned (.string (cat l1 S1 S2 i)) ∧ wx = w') := fun i wx hi hb => xidAt_cat a1 a2 l1 c1 l2 c2 S1 S2 i wx (W.out wx hb).1 (W.out wx hb).2 hi hL1 hL2
      clear hσ HXP HBn hRx hI5 b5' hC sC hs1 hs2 hAa HB W G1 G2 hL1 hL2
      generalize hn : l1 + l2 = n at *
      generalize cat l1 S1 S2 = S at *
      have hnb : n ≤ 131072 := by omega
      have e1 : ((l1 : Int) + (l2 : Int)) = (n : Int) := by omega
      rw [hlC] at htx
      go_wp2_with fail
      refine (blocks_any xb _ w5 ax (nblk C.length) cx rfl (by rw [hlC]; exact htx)).mono ?_
      rintro e w' ⟨rfl, rfl⟩
      rw [hlC]
      have hnn : nblk n ≤ 131072 := by unfold nblk; omega
      have hq : ((nblk n : Nat) : Int) = ((n : Int) + 384 - 1) / 384 := by unfold nblk; omega
      obtain ⟨i4, hi4, hz40, hz41, hz42⟩ := info_parts info4
      go_wp2_with (at_make; refine wpList_make_full _ rfl _ _ 36 rfl w5.heap.size 4 i4 _ 1 Try.underlying36 hi4 hz40 hz41 _ _ _ _ n rfl rfl rfl rfl (by rw [hz42]; omega) (by unfold maxLen; omega) (Nat.le_refl _) ?_; intro w6 hown hgr)
      have hsr : SRow w6 w5.heap.size n (seenOf σ 0) := by
        rcases hown.2 with ⟨h', _⟩ | ⟨g', cap', cur, h', _, hg, h2, h3, h4, htake⟩
        · simp at h'
        · simp only [Value.slice.injEq, Option.some.injEq, Addr.mk.injEq, and_true, true_and] at h'
          obtain ⟨rfl, rfl⟩ := h'
          refine ⟨cur, hg, by omega, fun j hj => ?_⟩
          have e0 : (Value.bool false).cells = #[.bool false] := rfl
          rw [e0, toList_madeCells_one, List.take_of_length_le (by simp; omega)] at htake
          rw [← Array.getElem?_toList, htake, List.getElem?_replicate, if_pos (by omega)]
          rfl
      have HSR : Hid (SRow w6 w5.heap.size n (seenOf σ 0)) := hsr
      have b6 : But [] w5 w6 := But.of_grown hgr
      generalize hsb : w5.heap.size = sb at *
      clear hown hgr hsr
      go_wp2_with fail
      go_loopw [11, 12, 13] (fun pos prev bi wx => ∃ k : Nat, k ≤ nblk n ∧ bi = .int .i64 k ∧ pos = .int .i64 (min (384 * k) n : Nat) ∧ prev = .string (prevOf S σ (min (384 * k) n)) ∧ But [] w5 wx ∧ Hid (SRow wx sb n (seenOf σ (min (384 * k) n)))) (fun _ _ bi _ => nblk n - (intOf bi).toNat)
      case atStart => exact ⟨0, by omega, rfl, by simp, by simp [prevOf], b6, by simpa using HSR⟩
      case round =>
        obtain ⟨k, hk, rfl, rfl, rfl, hbx, HSk⟩ := hrel
        by_cases hlt : k < nblk n
        · obtain ⟨bbx, bx, ⟨capx, ex⟩, cx0, hBx⟩ := HRx.out.blk k (by rw [hlC]; exact hlt)
          simp only [Value.slice.injEq, true_and] at ex
          obtain ⟨rfl, rfl⟩ := ex
          unfold bval at cx0
          rw [hlC] at cx0
          have cx1 := hbx.cell cx0 (by simp)
          clear cx0
          have hkn : 384 * k < n := by unfold nblk at hlt; omega
          have HPos : Hid (min (384 * (k + 1)) n = 384 * k + blen n k) := by show _ = _; unfold blen; omega
          have hbl : ((blen n k : Nat) : Int) = min 384 ((n : Int) - ((384 * k : Nat) : Int)) := by unfold blen; omega
          have hmin : min (384 * k) n = 384 * k := by omega
          rw [hmin]
          rw [hmin] at HSk
          generalize hble : blen n k = bl at *
          go_upto_if 98 with fail
          go_cut [15] (fun want wc => want = .int .i64 (bl : Nat) ∧ wc = wr)
          case first =>
            rcases Int.lt_or_le 384 ((n : Int) - ((384 * k : Nat) : Int)) with hw | hw
            · go_wp2_with fail
              go_meet
              case rel => exact ⟨by congr 1; omega, rfl⟩
            · go_wp2_with fail
              go_meet
              case rel => exact ⟨by congr 1; omega, rfl⟩
          case rest =>
            obtain ⟨rfl, rfl⟩ := hcut
            have hbl2 : (bl : Int) ≤ 384 := by omega
            have hbl3 : 384 * k + bl ≤ n := by omega
            clear hbl
            go_wp2_with fail
            clear hq
            go_loopw [11, 12, 16] (fun pos prev jv wx => ∃ j : Nat, j ≤ bl ∧ jv = .int .i64 j ∧ pos = .int .i64 (384 * k + j : Nat) ∧ prev = .string (prevOf S σ (384 * k + j)) ∧ But [] w5 wx ∧ Hid (SRow wx sb n (seenOf σ (384 * k + j)))) (fun _ _ jv _ => bl - (intOf jv).toNat)
            case atStart => exact ⟨0, by omega, rfl, by simp, by simp, hbx, HSk⟩
            case round =>
              obtain ⟨j, hj, rfl, rfl, rfl, hbj, HSj⟩ := hrel
              by_cases hltj : j < bl
              · have hex : j < (chunk C k).length := by rw [chunk_length, hlC, hble]; exact hltj
                have ox := (hBx.kept hbj (by simp)).entry j hex
                have hpn : 384 * k + j < n := by omega
                have gx : C[384 * k + j]? = some (chunk C k)[j] := by rw [← chunk_at C k j (by rw [hlC, hble]; exact hltj)]; exact List.getElem?_eq_getElem hex
                have hce := HS.out.ent _ hpn
                rw [gx] at hce
                rw [Option.some.inj hce] at ox
                obtain ⟨ox1, ox2⟩ := ox
                have hsn := HS.out.lt _ hpn
                have hnew := seenOf_new HS.out _ hpn
                have HMet : Hid (∀ wx, But [] wr wx → SRow wx sb n (seenOf σ (384 * k + j)) ∧ SRow (wx.setCell ⟨sb, σ (384 * k + j), none⟩ (.bool true)) sb n (seenOf σ (384 * k + j + 1))) := fun wx hb => ⟨HSj.out.kept hb (by simp), (HSj.out.kept hb (by simp)).met hsn⟩
                clear gx hce hex
                have hkz := HSz.out _ hsn
                go_wp2_with fail
                refine (fields_any _ _ _).mono ?_
                rintro e wA ⟨rfl, bA⟩
                have bjA : But [] w5 wA := hbj.own bA (by simp)
                have tA := (HT.out _ hsn).kept bjA (by simp)
                have cA := (HP5.out.kept bjA (by simp)).at _ hsn
                obtain ⟨srA, srN⟩ := HMet.out wA bA
                have cS := srA.at _ hsn
                rw [hnew] at cS
                have fS := srA.free (σ (384 * k + j))
                have bjN : But [] w5 (wA.setCell ⟨sb, σ (384 * k + j), none⟩ (.bool true)) := bjA.own ((But.refl [sb] wA).setCell (by simp) _) (by simp; omega)
                clear ox1 ox2 hnew
                have hneq := neq_same ⟨P (σ (384 * k + j)), 0, none⟩
                go_wp2_with fail
                refine (txnSeq_any _ _ _ wA tA).mono ?_
                rintro e w' ⟨rfl, rfl⟩
                go_wp2_with fail
                have HN : Hid (SRow (wA.setCell ⟨sb, σ (384 * k + j), none⟩ (.bool true)) sb n (seenOf σ (384 * k + j + 1))) := srN
                clear srA srN cS fS cA hneq tA bA HMet
                generalize wA.setCell ⟨sb, σ (384 * k + j), none⟩ (.bool true) = wN at *
                refine (HXid.out (σ (384 * k + j)) wN hsn (b9.own bjN (by simp))).mono ?_
                rintro e w' ⟨rfl, rfl⟩
                go_wp2_with fail
                refine (zzKey_any _ wN hkz).mono ?_
                rintro e w' ⟨rfl, rfl⟩
                by_cases hp0 : 384 * k + j = 0
                · have hp0' : ¬ (0 : Int) < 384 * (k : Int) + (j : Int) := by omega
                  clear hp0
                  go_wp2_with fail
                  go_roundw
                  case rel =>
                    have R : ∃ i : Nat, i ≤ bl ∧ Value.int .i64 ((j : Int) + 1) = .int .i64 i ∧ Value.int .i64 (384 * (k : Int) + (j : Int) + 1) = .int .i64 (384 * k + i : Nat) ∧ Value.string (S (σ (384 * k + j))) = .string (prevOf S σ (384 * k + i)) ∧ But [] w5 wN ∧ Hid (SRow wN sb n (seenOf σ (384 * k + i))) := ⟨j + 1, by omega, by go_num, by go_num, rfl, bjN, HN⟩
                    first
                      | exact R
                      | ((repeat apply Exists.intro); exact ⟨R, rfl⟩)
                  case measure => simp [intOf]; omega
                · obtain ⟨p', hp'⟩ : ∃ p', 384 * k + j = p' + 1 := ⟨384 * k + j - 1, by omega⟩
                  have hprev : prevOf S σ (384 * k + j) = S (σ p') := by rw [hp']; rfl
                  have hle := HS.out.sorted p' (by omega)
                  rw [← hp'] at hle
                  have hpz := HSz.out _ (HS.out.lt p' (by omega))
                  have hp0' : (0 : Int) < 384 * (k : Int) + (j : Int) := by omega
                  rw [hprev]
                  clear hprev hp'
                  go_wp2_with fail
                  refine (less_false _ _ wN hle hkz hpz).mono ?_
                  rintro e wD ⟨rfl, bD⟩
                  have bjD : But [] w5 wD := bjN.own bD (by simp)
                  have HND : Hid (SRow wD sb n (seenOf σ (384 * k + j + 1))) := HN.out.kept bD (by simp)
                  go_wp2_with fail
                  go_roundw
                  case rel =>
                    have R : ∃ i : Nat, i ≤ bl ∧ Value.int .i64 ((j : Int) + 1) = .int .i64 i ∧ Value.int .i64 (384 * (k : Int) + (j : Int) + 1) = .int .i64 (384 * k + i : Nat) ∧ Value.string (S (σ (384 * k + j))) = .string (prevOf S σ (384 * k + i)) ∧ But [] w5 wD ∧ Hid (SRow wD sb n (seenOf σ (384 * k + i))) := ⟨j + 1, by omega, by go_num, by go_num, rfl, bjD, HND⟩
                    first
                      | exact R
                      | ((repeat apply Exists.intro); exact ⟨R, rfl⟩)
                  case measure => simp [intOf]; omega
              · have hje : bl = j := by omega
                subst hje
                go_wp2_with fail
                go_roundw
                case rel => exact ⟨k + 1, by omega, by go_num, by rw [HPos.out], by rw [HPos.out], hbj, by rw [HPos.out]; exact HSj⟩
                case measure => simp [intOf]; omega
        · have hke : k = nblk n := by omega
          subst hke
          rw [psum_all]
          go_wp2_with fail
          go_ret
          exact ⟨rfl, b9.own hbx (by simp)⟩

end Go.Proofs.Qxb6616291a
