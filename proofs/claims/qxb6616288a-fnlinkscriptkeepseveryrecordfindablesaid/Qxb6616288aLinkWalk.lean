import Derived.Test.Qxb6616288aLinkState
import Derived.Deep.DeepCutAuto
import Derived.WalkSmall
import Derived.Lib.QuietBelow
namespace Go.Proofs.Qxb6616288a.Lnk
open Go.RowKit Go.Sort

theorem bytes22 (a0 : Int) (a1 : Option Addr) (len1 cap1 : Nat) (a2 : Option Addr) (len2 cap2 : Nat) (a3 a4 : Int) (w : World) (h1 : len1 ≤ 1024) (h2 : len2 ≤ 1024) :
    Calls Try.prog 22 #[.int .i64 a0, .slice a1 len1 cap1, .slice a2 len2 cap2, .int .u64 a3, .int .i64 a4] w fun e w' => e = .returned (.bool true) ∧ w = w' := by
  go_enter Try.func22, Try.ntmps22
  go_wp2
  go_ret
  exact ⟨rfl, rfl⟩

/-- The slice a reads the numbers F, for as many as len. -/
def Reads (k : IntKind) (w : World) (a : Option Addr) (len : Nat) (F : Nat → Int) : Prop :=
  ∀ j, j < len → ∃ b o, a = some ⟨b, o, none⟩ ∧ w.cell? ⟨b, o + j, none⟩ = some (.int k (F j))
theorem Reads.kept {k : IntKind} {w w' : World} {a : Option Addr} {len : Nat} {F : Nat → Int} (h : Reads k w a len F) (hb : Below w.heap.size w w') : Reads k w' a len F := by
  intro j hj
  obtain ⟨b, o, e, hc⟩ := h j hj
  exact ⟨b, o, e, (hb.cell (p := ⟨b, o + j, none⟩) (World.block_lt_of_cell? w _ hc)).trans hc⟩

theorem info5 : (Try.prog.info? 5).map (fun i => (i.zero, i.size, i.bytes)) = some (some (.int .u8 0), 1, 1) := by kernel_rfl
theorem info3 : (Try.prog.info? 3).map (fun i => (i.zero, i.size, i.bytes)) = some (some (.int .i64 0), 1, 8) := by kernel_rfl

theorem want_same (fp o : Int) (w : World) (h1 : 0 ≤ fp) (h2 : fp ≤ 1073741823) (h3 : 0 ≤ o) (h4 : o ≤ 4294967295) :
    Calls Try.prog 10 #[.int .u64 fp, .int .i64 o] w fun e w' => e = .returned (.int .u64 (want fp o)) ∧ w' = w :=
  (want_any fp o w h1 h2 h3 h4).mono fun _ _ ⟨he, hw⟩ => ⟨he, hw.symm⟩

theorem range_of {n len : Nat} {F O : Nat → Int} {T : Nat → Int} {P : Nat → Nat} (hinv : Inv n (fun j => want (F j) (O j)) (fun j => home (F j) n) len T P) (HW : ∀ j, j < len → want (F j) (O j) ≠ 0 ∧ (9223372036854775808 ≤ want (F j) (O j) ∧ want (F j) (O j) < 13835058055282163712)) :
    ∀ i, i < n → T i = 0 ∨ (9223372036854775808 ≤ T i ∧ T i < 13835058055282163712) := by
  intro i hi
  by_cases hz : T i = 0
  · exact .inl hz
  · obtain ⟨j, j1, _, j3⟩ := hinv.owner i hi hz
    have := (HW j j1).2
    rw [j3]
    exact .inr this

/-- slotOf finds record k where it was linked. -/
theorem slot_found {w wx : World} {M S D Pb n len : Nat} {F O : Nat → Int} {T : Nat → Int} {P : Nat → Nat} (hinv : Inv n (fun j => want (F j) (O j)) (fun j => home (F j) n) len T P)
    (HW : ∀ j, j < len → want (F j) (O j) ≠ 0 ∧ (9223372036854775808 ≤ want (F j) (O j) ∧ want (F j) (O j) < 13835058055282163712)) (hmx : Mem w wx M S D Pb n len T P len)
    (hdist : ∀ j, j < len → ∀ u, j < u → u < len → want (F j) (O j) ≠ want (F u) (O u)) (hok : ∀ j, j < len → 0 ≤ F j ∧ F j ≤ 1073741823 ∧ 0 ≤ O j ∧ O j ≤ 4294967295)
    (hn : n ≤ 4096) (hn1 : 1 ≤ n) (k : Nat) (hk : k < len) :
    Calls Try.prog 15 #[.pointer (some ⟨D, 0, none⟩), .int .u64 (F k), .int .i64 (O k)] wx fun e w' => e = .returned (.int .i64 (P k : Nat)) ∧ But [] wx w' := by
  obtain ⟨d, d1, d2, d3, d4⟩ := hinv.find (by omega) (fun j u hj hu e => by
    by_cases c : j < u
    · exact absurd e (hdist j hj u c hu)
    · by_cases c2 : u < j
      · exact absurd e.symm (hdist u hu j c2 hj)
      · omega) (fun j hj => home_lt _ n (hok j hj).1 (hok j hj).2.1 hn1) k hk
  obtain ⟨g1, g2, g3, g4⟩ := hok k hk
  refine (shardSlotOf_any D S n (len : Int) T (F k) (O k) d wx hmx.shard hmx.index hn g1 g2 g3 g4 (range_of hinv HW) d1 (.inr d3) d4).mono ?_
  rintro e w' ⟨rfl, hb⟩
  refine ⟨?_, hb⟩
  have d3' : T (at_ (home (F k) n) d n) = want (F k) (O k) := d3
  have d2' : at_ (home (F k) n) d n = P k := d2
  rw [answer, if_pos d3', d2']

/-- A record that was never linked gives -1. -/
theorem slot_lack {w wx : World} {M S D Pb n len : Nat} {F O : Nat → Int} {T : Nat → Int} {P : Nat → Nat} {fp o : Int} (hinv : Inv n (fun j => want (F j) (O j)) (fun j => home (F j) n) len T P)
    (HW : ∀ j, j < len → want (F j) (O j) ≠ 0 ∧ (9223372036854775808 ≤ want (F j) (O j) ∧ want (F j) (O j) < 13835058055282163712)) (hmx : Mem w wx M S D Pb n len T P len)
    (hd : ∀ j, j < len → want (F j) (O j) ≠ want fp o) (hn : n ≤ 4096) (hn1 : 1 ≤ n) (hln : len < n) (h1 : 0 ≤ fp) (h2 : fp ≤ 1073741823) (h3 : 0 ≤ o) (h4 : o ≤ 4294967295) :
    Calls Try.prog 15 #[.pointer (some ⟨D, 0, none⟩), .int .u64 fp, .int .i64 o] wx fun e w' => e = .returned (.int .i64 (-1)) ∧ But [] wx w' := by
  obtain ⟨d, d1, d2, d3⟩ := hinv.lack (by omega) hln (home fp n) (home_lt fp n h1 h2 hn1) (want fp o) hd
  refine (shardSlotOf_any D S n (len : Int) T fp o d wx hmx.shard hmx.index hn h1 h2 h3 h4 (range_of hinv HW) d1 (.inl d2) d3).mono ?_
  rintro e w' ⟨rfl, hb⟩
  refine ⟨?_, hb⟩
  have hw := want_bd fp o h1 h2 h3 h4
  rw [answer, if_neg (by omega)]

set_option maxHeartbeats 4000000 in
set_option maxRecDepth 100000 in
theorem walk_main (n len : Nat) (a1 a2 : Option Addr) (cap1 cap2 : Nat) (F O : Nat → Int) (a3 a4 : Int) (w : World)
    (R1 : Reads .u64 w a1 len F) (R2 : Reads .i64 w a2 len O) (hF : ∀ j, j < len → 0 ≤ F j ∧ F j ≤ 18446744073709551615) (hO : ∀ j, j < len → -9223372036854775808 ≤ O j ∧ O j ≤ 9223372036854775807)
    (h31 : 0 ≤ a3) (h32 : a3 ≤ 1073741823) (h41 : 0 ≤ a4) (h42 : a4 ≤ 4294967295) (hn1 : 1 ≤ n) (hn : n ≤ 4096) (hl : len ≤ 1024) (hln : len < n) :
    Calls Try.prog 5 #[.int .i64 n, .slice a1 len cap1, .slice a2 len cap2, .int .u64 a3, .int .i64 a4] w fun e w' => e = .returned (.bool true) ∧ Below w.heap.size w w' := by
  have HF : Hid (∀ j, j < len → 0 ≤ F j ∧ F j ≤ 18446744073709551615) := hF
  have HO : Hid (∀ j, j < len → -9223372036854775808 ≤ O j ∧ O j ≤ 9223372036854775807) := hO
  have H1 : Hid (Reads .u64 w a1 len F) := R1
  have H2 : Hid (Reads .i64 w a2 len O) := R2
  clear hF hO R1 R2
  have hok : (decide (0 ≤ a4) && decide (a4 ≤ 4294967295)) = true := by simp; omega
  go_enter Try.func5, Try.ntmps5
  go_wp2_with (first | (go_at_call 22; refine (bytes22 _ _ _ _ _ _ _ _ _ _ hl hl).mono ?_; rintro e w' ⟨rfl, rfl⟩) | (go_at_call 8; refine (offOK_any a4 _ (by omega) (by omega)).mono ?_; rintro e w' ⟨rfl, rfl⟩; rw [hok]))
  go_loop [11] (fun t => ∃ k : Nat, k ≤ len ∧ t = .int .i64 k ∧ Hid (∀ j, j < k → F j ≤ 1073741823 ∧ 0 ≤ O j ∧ O j ≤ 4294967295)) (fun t => len - (intOf t).toNat)
  case atStart => exact ⟨0, by omega, rfl, fun j hj => by omega⟩
  case round =>
    obtain ⟨k, hk, rfl, HV⟩ := hrel
    by_cases hlt : k < len
    · obtain ⟨b1, o1, rfl, c1⟩ := H1.out k hlt
      obtain ⟨b2, o2, rfl, c2⟩ := H2.out k hlt
      obtain ⟨f1, f2⟩ := HF.out k hlt
      obtain ⟨g1, g2⟩ := HO.out k hlt
      by_cases hm : 1073741823 < F k
      · go_wp2_with fail
        go_ret
        exact ⟨rfl, Below.refl _ _⟩
      · by_cases hv : 0 ≤ O k ∧ O k ≤ 4294967295
        · have hb : (decide (0 ≤ O k) && decide (O k ≤ 4294967295)) = true := by simpa using hv
          go_wp2_with (go_at_call 8; refine (offOK_any (O k) _ g1 g2).mono ?_; rintro e w' ⟨rfl, rfl⟩; rw [hb])
          go_round
          case rel => exact ⟨k + 1, by omega, by go_num, fun j hj => by
            by_cases e : j = k
            · subst e; exact ⟨by omega, hv.1, hv.2⟩
            · exact HV.out j (by omega)⟩
          case measure => simp [intOf]; omega
        · have hb : (decide (0 ≤ O k) && decide (O k ≤ 4294967295)) = false := by simp; omega
          go_wp2_with (go_at_call 8; refine (offOK_any (O k) _ g1 g2).mono ?_; rintro e w' ⟨rfl, rfl⟩; rw [hb])
          go_ret
          exact ⟨rfl, Below.refl _ _⟩
    · have hkl : len = k := by omega
      subst hkl
      go_wp2_with (go_at_call 10; refine (want_any a3 a4 _ h31 h32 h41 h42).mono ?_; rintro e w' ⟨rfl, rfl⟩)
      clear hlt hk
      go_loopw [13] (fun t wr => ∃ k : Nat, k ≤ len ∧ t = .int .i64 k ∧ Hid (∀ j, j < k → want (F j) (O j) ≠ want a3 a4 ∧ ∀ u, j < u → u < len → want (F j) (O j) ≠ want (F u) (O u)) ∧ Below w.heap.size w wr) (fun t _ => len - (intOf t).toNat)
      case atStart => exact ⟨0, by omega, rfl, fun j hj => by omega, Below.refl _ _⟩
      case round =>
        obtain ⟨k, hk, rfl, HD, hbel⟩ := hrel
        by_cases hlt : k < len
        · obtain ⟨b1, o1, rfl, c1⟩ := (H1.out.kept hbel) k hlt
          obtain ⟨b2, o2, rfl, c2⟩ := (H2.out.kept hbel) k hlt
          obtain ⟨f1, f2⟩ := HF.out k hlt
          obtain ⟨v1, v2, v3⟩ := HV.out k hlt
          go_wp2_with fail
          go_quiet ((go_at_call 10; exact Calls.quiet_of_same (want_same (F k) (O k) _ f1 v1 v2 v3)))
          by_cases hp : want (F k) (O k) = want a3 a4
          · have hb : (want (F k) (O k) == want a3 a4) = true := beq_iff_eq.2 hp
            go_wp2_with fail
            go_ret
            exact ⟨rfl, below_drewN hbel _⟩
          · have hb : (want (F k) (O k) == want a3 a4) = false := beq_eq_false_iff_ne.2 hp
            go_wp2_with fail
            have hbq := below_drewN hbel nq
            generalize wr.drewN nq = wq at hbq ⊢
            have Hp : Hid (¬ want (F k) (O k) = want a3 a4) := hp
            clear c1 c2 hb hp hbel
            go_loopw [15] (fun t wr => ∃ u : Nat, k + 1 ≤ u ∧ u ≤ len ∧ t = .int .i64 u ∧ Hid (∀ v, k < v → v < u → want (F k) (O k) ≠ want (F v) (O v)) ∧ Below w.heap.size w wr) (fun t _ => len - (intOf t).toNat)
            case atStart => exact ⟨k + 1, by omega, by omega, by go_num, fun v h1 h2 => by omega, hbq⟩
            case round =>
              obtain ⟨u, hu1, hu2, rfl, HU, hbel⟩ := hrel
              by_cases hul : u < len
              · obtain ⟨b1', o1', e1, c1⟩ := (H1.out.kept hbel) u hul
                obtain ⟨b2', o2', e2, c2⟩ := (H2.out.kept hbel) u hul
                simp only [Option.some.injEq, Addr.mk.injEq, and_true] at e1 e2
                obtain ⟨rfl, rfl⟩ := e1
                obtain ⟨rfl, rfl⟩ := e2
                obtain ⟨f1', f2'⟩ := HF.out u hul
                obtain ⟨v1', v2', v3'⟩ := HV.out u hul
                go_wp2_with fail
                go_quiet ((go_at_call 10; exact Calls.quiet_of_same (want_same (F u) (O u) _ f1' v1' v2' v3')))
                by_cases hp : want (F k) (O k) = want (F u) (O u)
                · have hb : (want (F k) (O k) == want (F u) (O u)) = true := beq_iff_eq.2 hp
                  go_wp2_with fail
                  go_ret
                  exact ⟨rfl, below_drewN hbel _⟩
                · have hb : (want (F k) (O k) == want (F u) (O u)) = false := beq_eq_false_iff_ne.2 hp
                  go_wp2_with fail
                  go_roundw
                  case rel => exact ⟨u + 1, by omega, by omega, by go_num, fun v g1 g2 => by
                    by_cases e : v = u
                    · subst e; exact hp
                    · exact HU.out v g1 (by omega), below_drewN hbel _⟩
                  case measure => simp [intOf]; omega
              · go_wp2_with fail
                go_roundw
                case rel => exact ⟨k + 1, by omega, by go_num, fun j hj => by
                  by_cases e : j = k
                  · subst e; exact ⟨Hp.out, fun v g1 g2 => HU.out v g1 (by omega)⟩
                  · exact HD.out j (by omega), hbel⟩
                case measure => simp [intOf]; omega
        · have hkl : len = k := by omega
          subst hkl
          clear hlt hk
          obtain ⟨i5, hi5, hz50, hz51, hz52⟩ := info_parts info5
          obtain ⟨i3, hi3, hz30, hz31, hz32⟩ := info_parts info3
          go_wp2_with (first
            | (at_make; refine wpList_make_full _ rfl (.tmp 126) (.tmp 126) 22 rfl w.heap.size 5 i5 (.int .u8 0) 1 Try.underlying22 hi5 hz50 hz51 _ _ _ _ (8 * n) rfl rfl (by omega) (by omega) (by rw [hz52]; omega) (by unfold maxLen; omega) hbel.size ?_; intro wM hownM hgM; have hbM := hbel.grown hgM hbel.size (fun k hk => by cases hk))
            | (at_make; refine wpList_make_full _ rfl (.tmp 129) (.tmp 129) 22 rfl w.heap.size 5 i5 (.int .u8 0) 1 Try.underlying22 hi5 hz50 hz51 _ _ _ _ (8 * n) rfl rfl (by omega) (by omega) (by rw [hz52]; omega) (by unfold maxLen; omega) hbM.size ?_; intro wS hownS hgS; have hbS := hbM.grown hgS hbM.size (fun k hk => by cases hk))
            | (go_at_call 12; refine (newShard_any _ n _).mono ?_; rintro e wD ⟨rfl, hSh, hbD, hszD⟩; have hbD' := hbS.trans (hbD.below hbS.size (by simp)))
            | (at_make; refine wpList_make_full _ rfl (.tmp 132) (.tmp 132) 42 rfl w.heap.size 3 i3 (.int .i64 0) 1 Try.underlying42 hi3 hz30 hz31 _ _ _ _ len rfl rfl rfl rfl (by rw [hz32]; omega) (by unfold maxLen; omega) hbD'.size ?_; intro wP hownP hgP; have hbP := hbD'.grown hgP hbD'.size (fun k hk => by cases hk)))
          rw [hszD] at hownP
          obtain ⟨hmem0, hap⟩ := Mem.start hbel hownM hgM hownS hgS hSh hbD hownP hgP (fun _ => 0)
          have HW : Hid (∀ j, j < len → want (F j) (O j) ≠ 0 ∧ (9223372036854775808 ≤ want (F j) (O j) ∧ want (F j) (O j) < 13835058055282163712)) := fun j hj => by
            have hb := want_bd (F j) (O j) (HF.out j hj).1 (HV.out j hj).1 (HV.out j hj).2.1 (HV.out j hj).2.2
            exact ⟨by omega, hb⟩
          clear hownM hgM hownS hgS hSh hbD hownP hgP hbM hbS hbD' hszD hbP hbel
          generalize wr.heap.size = M at hmem0 hap ⊢
          generalize wM.heap.size = S at hmem0 hap ⊢
          generalize wS.heap.size + 1 = Pb at hmem0 hap ⊢
          generalize wS.heap.size = D at hmem0 hap ⊢
          go_loopw [20] (fun t wr => ∃ (k : Nat) (T : Nat → Int) (P : Nat → Nat), k ≤ len ∧ t = .int .i64 k ∧ Mem w wr M S D Pb n len T P k ∧ Inv n (fun j => want (F j) (O j)) (fun j => home (F j) n) k T P) (fun t _ => len - (intOf t).toNat)
          case atStart => exact ⟨0, _, _, by omega, rfl, hmem0, Inv.start _ _ _ _⟩
          case round =>
            obtain ⟨k, T, P, hk, rfl, hmem, hinv⟩ := hrel
            by_cases hlt : k < len
            · obtain ⟨b1, o1, rfl, c1⟩ := (H1.out.kept hmem.old) k hlt
              obtain ⟨b2, o2, rfl, c2⟩ := (H2.out.kept hmem.old) k hlt
              obtain ⟨f1, f2⟩ := HF.out k hlt
              obtain ⟨v1, v2, v3⟩ := HV.out k hlt
              obtain ⟨w0, w1b, w2b⟩ := HW.out k hlt
              obtain ⟨d, hd, he, hne⟩ := hinv.empty (by omega) (home (F k) n) (home_lt (F k) n f1 v1 hn1)
              have hR : ∀ i, i < n → 0 ≤ T i ∧ T i < 18446744073709551616 := fun i hi => by
                by_cases hz : T i = 0
                · omega
                · obtain ⟨j, j1, _, j3⟩ := hinv.owner i hi hz
                  have := (HW.out j (by omega)).2
                  omega
              obtain ⟨z, hcz⟩ := hmem.pos.cell k hlt
              have hfz := hmem.pos.free k
              have hFE := firstEmpty_any M n T (F k) d wr hmem.model hn f1 v1 hR hd he hne
              have hi := at_lt (home (F k) n) d n (by omega)
              have hnext := hinv.step (by omega) w0 d hd he hne (fun j hj => (HW.out j (by omega)).1) (fun j => if j = k then at_ (home (F k) n) d n else P j) (fun j hj => by simp only [if_neg (by omega : ¬ j = k)]) (by simp)
              obtain ⟨m1, m2, m3, m4, m5⟩ := hmem.posStored hap hlt (at_ (home (F k) n) d n)
              have r1 : (wr.setCell ⟨Pb, k, none⟩ (.int .i64 (at_ (home (F k) n) d n : Nat))).cell? ⟨b1, o1 + k, none⟩ = some (.int .u64 (F k)) := by
                obtain ⟨b, o, e, c⟩ := (H1.out.kept m5) k hlt
                simp only [Option.some.injEq, Addr.mk.injEq, and_true] at e
                obtain ⟨rfl, rfl⟩ := e
                exact c
              have r2 : (wr.setCell ⟨Pb, k, none⟩ (.int .i64 (at_ (home (F k) n) d n : Nat))).cell? ⟨b2, o2 + k, none⟩ = some (.int .i64 (O k)) := by
                obtain ⟨b, o, e, c⟩ := (H2.out.kept m5) k hlt
                simp only [Option.some.injEq, Addr.mk.injEq, and_true] at e
                obtain ⟨rfl, rfl⟩ := e
                exact c
              have l1 : b1 < w.heap.size := by
                obtain ⟨b, o, e, c⟩ := H1.out k hlt
                simp only [Option.some.injEq, Addr.mk.injEq, and_true] at e
                obtain ⟨rfl, rfl⟩ := e
                exact World.block_lt_of_cell? w _ c
              have l2 : b2 < w.heap.size := by
                obtain ⟨b, o, e, c⟩ := H2.out k hlt
                simp only [Option.some.injEq, Addr.mk.injEq, and_true] at e
                obtain ⟨rfl, rfl⟩ := e
                exact World.block_lt_of_cell? w _ c
              clear hR he hne hmem hinv
              generalize at_ (home (F k) n) d n = i at *
              have HFE : Hid (Calls Try.prog 18 #[.slice (some ⟨M, 0, none⟩) (8 * n) (8 * n), .int .u64 (F k)] wr fun e w' => e = .returned (.int .i64 (i : Nat)) ∧ wr = w') := hFE
              have HX : Hid (Inv n (fun j => want (F j) (O j)) (fun j => home (F j) n) (k + 1) (fun k' => if k' = i then want (F k) (O k) else T k') (fun j => if j = k then i else P j)) := hnext
              clear hFE hnext
              go_wp2_with fail
              refine (Calls.mono HFE.out) ?_
              rintro e w' ⟨rfl, rfl⟩
              go_upto_region 37 with fail
              generalize wr.setCell ⟨Pb, k, none⟩ (.int .i64 (i : Nat)) = wA at m1 m2 m3 m4 m5 r1 r2 ⊢
              clear c1 c2 hcz hfz HFE
              go_cut [160] (fun _ wc => Tab wc M n (fun k' => if k' = i then want (F k) (O k) else T k') ∧ But [M] wA wc)
              case first =>
                go_region_with (first | (go_at_call 10; refine (want_any (F k) (O k) _ f1 v1 v2 v3).mono ?_; rintro e w' ⟨rfl, rfl⟩) | (go_at_call 23; refine (zzPut_any M n T i (want (F k) (O k)) _ ?_ hi hn ?_ ?_).mono ?_; exact m1; omega; omega; rintro e w2 ⟨rfl, p1, p2, p3⟩))
                all_goals
                  go_wp2_with fail
                  go_meet
                  exact ⟨p1, ((But.refl _ _).drew).trans p2⟩
              case rest =>
                obtain ⟨p1, p2⟩ := hcut
                have hapm := hap.m
                have haps := hap.s
                have hapd := hap.d
                have happ := hap.p
                have n1 := m2.kept p2 (by simp; omega)
                have n2 := m3.kept p2 (by simp; omega)
                have n3 := m4.kept p2 (by simp; omega)
                have n4 := m5.trans (p2.below m5.size (by simp; omega))
                have q1 := p2.cell r1 (by simp; omega)
                have q2 := p2.cell r2 (by simp; omega)
                clear m1 m2 m3 m4 m5 r1 r2 p2
                go_upto_region 38 with fail
                go_region_with (go_at_call 19; refine (shardLink_any D S n (k : Int) T i (F k) (O k) _ ?_ ?_ hi hn f1 v1 v2 v3 ?_ ?_).mono ?_; exact n2; exact n1; omega; omega; rintro e w3 ⟨rfl, s1, s2, s3⟩)
                all_goals
                  have s4 : But [S, D] wc w3 := ((But.refl _ _).drew).trans s3
                  have hM : Mem w w3 M S D Pb n len (fun k' => if k' = i then want (F k) (O k) else T k') (fun j => if j = k then i else P j) (k + 1) :=
                    ⟨p1.kept s4 (by simp; omega), s1, by rw [show ((k + 1 : Nat) : Int) = (k : Int) + 1 from by omega]; exact s2, n3.kept s4 (by simp; omega), n4.trans (s4.below n4.size (by simp; omega))⟩
                  clear s1 s2 s3 s4 n1 n2 n3 n4 p1 q1 q2
                  go_wp2_with fail
                  go_roundw
                  case rel => exact ⟨k + 1, _, _, by omega, by go_num, hM, HX.out⟩
                  case measure => simp [intOf]; omega
            · have hkl : len = k := by omega
              subst hkl
              clear hlt hk hmem0
              have hcnt : (((len : Nat) : Int) != (len : Int)) = false := by simp
              go_wp2_with (go_at_call 20; refine (count_any D S n (len : Int) _ hmem.shard).mono ?_; rintro e w' ⟨rfl, rfl⟩)
              go_loopw [22] (fun t wx => ∃ k : Nat, k ≤ len ∧ t = .int .i64 k ∧ Mem w wx M S D Pb n len T P len) (fun t _ => len - (intOf t).toNat)
              case atStart => exact ⟨0, by omega, rfl, hmem⟩
              case round =>
                obtain ⟨k, hk, rfl, hmx⟩ := hrel
                by_cases hlt : k < len
                · obtain ⟨b1, o1, rfl, c1⟩ := (H1.out.kept hmx.old) k hlt
                  obtain ⟨b2, o2, rfl, c2⟩ := (H2.out.kept hmx.old) k hlt
                  obtain ⟨f1, f2⟩ := HF.out k hlt
                  obtain ⟨v1, v2, v3⟩ := HV.out k hlt
                  have c3 := hmx.pos.at k hlt
                  have k1 := cell_regrown c1
                  have k2 := cell_regrown c2
                  have k3 := cell_regrown c3
                  have cS : ∀ d os, Calls Try.prog 15 #[.pointer (some ⟨D, 0, none⟩), .int .u64 (F k), .int .i64 (O k)] (grow (redrawn wr d) os) fun e w'' => e = .returned (.int .i64 (P k : Nat)) ∧ ∃ p : Regrown, w'' = grow (redrawn wr p.d) p.os := fun d os =>
                    Calls.regrown_of ((slot_found hinv HW.out (hmx.kept (But.of_below (below_regrown wr d os))) (fun j hj => (HD.out j hj).2) (fun j hj => ⟨(HF.out j hj).1, HV.out j hj⟩) hn hn1 k hlt).mono fun _ _ ⟨he, hb⟩ => ⟨he, hb.below (Nat.le_refl _) (by simp)⟩)
                  clear c1 c2 c3
                  go_upto_region 44 with fail
                  refine wp_region_quiet_below (by kernel_rfl) (by kernel_rfl) ?_
                  repeat (quiet_step (exact cS _ _))
                  refine wpQuiet_nil ?_
                  intro _ hw'
                  obtain ⟨⟨dq, osq⟩, hw''⟩ := hw'
                  subst hw''
                  have hmq := hmx.kept (But.of_below (below_regrown wr dq osq))
                  generalize grow (redrawn wr dq) osq = wq at hmq ⊢
                  clear cS k1 k2 k3 hmx
                  go_wp2_with fail
                  go_roundw
                  case rel => exact ⟨k + 1, by omega, by go_num, hmq⟩
                  case measure => simp [intOf]; omega
                · have hkl : len = k := by omega
                  subst hkl
                  clear hlt hk
                  go_wp2_with fail
                  refine (slot_lack hinv HW.out hmx (fun j hj => (HD.out j hj).1) hn hn1 hln h31 h32 h41 h42).mono ?_
                  rintro e wy ⟨rfl, hby⟩
                  have hmy := hmx.kept hby
                  clear hmx hby
                  go_wp2_with (go_at_call 21; refine (table_any D S n (len : Int) _ hmy.shard).mono ?_; rintro e w' ⟨rfl, rfl⟩)
                  go_loopw [24] (fun t wz => ∃ k : Nat, k ≤ 8 * n ∧ t = .int .i64 k ∧ Tab wz M n T ∧ Tab wz S n T ∧ Below w.heap.size w wz) (fun t _ => 8 * n - (intOf t).toNat)
                  case atStart => exact ⟨0, by omega, rfl, hmy.model, hmy.index, hmy.old⟩
                  case round =>
                    obtain ⟨k, hk, rfl, t1, t2, hbz⟩ := hrel
                    by_cases hlt : k < 8 * n
                    · have c1 : wr.cell? ⟨M, k, none⟩ = some (.int .u8 (byteOf (T (k / 8)) (k % 8))) := by
                        have := t1.cell (k / 8) (by omega) (k % 8) (by omega)
                        rwa [show 8 * (k / 8) + k % 8 = k by omega] at this
                      have c2 : wr.cell? ⟨S, k, none⟩ = some (.int .u8 (byteOf (T (k / 8)) (k % 8))) := by
                        have := t2.cell (k / 8) (by omega) (k % 8) (by omega)
                        rwa [show 8 * (k / 8) + k % 8 = k by omega] at this
                      have hB : (k : Int) < 8 * (n : Int) := by omega
                      go_wp2_with fail
                      go_quiet (fail)
                      go_wp2_with fail
                      go_roundw
                      case rel => exact ⟨k + 1, by omega, by go_num, t1, t2, below_drewN hbz _⟩
                      case measure => simp [intOf]; omega
                    · go_wp2_with fail
                      go_ret
                      exact ⟨rfl, hbz⟩

end Go.Proofs.Qxb6616288a.Lnk
