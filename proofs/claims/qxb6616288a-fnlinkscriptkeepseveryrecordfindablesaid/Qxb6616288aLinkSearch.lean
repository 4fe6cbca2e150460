import Derived.Test.Qxb6616288aLinkShard
import Derived.Test.Qxb6616288aLinkProbe
namespace Go.Proofs.Qxb6616288a.Lnk
open Go.RowKit

set_option maxHeartbeats 1000000 in
theorem firstEmpty_any (b n : Nat) (T : Nat → Int) (fp : Int) (d : Nat) (w : World) (hT : Tab w b n T) (hn : n ≤ 4096) (h1 : 0 ≤ fp) (h2 : fp ≤ 1073741823) (hR : ∀ i, i < n → 0 ≤ T i ∧ T i < 18446744073709551616)
    (hd : d < n) (he : T (at_ (home fp n) d n) = 0) (hne : ∀ d', d' < d → T (at_ (home fp n) d' n) ≠ 0) :
    Calls Try.prog 18 #[.slice (some ⟨b, 0, none⟩) (8 * n) (8 * n), .int .u64 fp] w fun e w' => e = .returned (.int .i64 (at_ (home fp n) d n : Nat)) ∧ w = w' := by
  have hn1 : 1 ≤ n := by omega
  have hh := home_lt fp n h1 h2 hn1
  have H0 : Hid (at_ (home fp n) 0 n = home fp n) := at_zero _ _ hh
  have HS : Hid (∀ k, (at_ (home fp n) k n + 1) % n = at_ (home fp n) (k + 1) n) := fun k => at_succ _ k n
  have HL : Hid (∀ k, at_ (home fp n) k n < n) := fun k => at_lt _ k n (by omega)
  have e8 : (8 * (n : Int)) / 8 = n := by omega
  have hz : ((n : Int) == 0) = false := beq_eq_false_iff_ne.2 (by omega)
  have HE : Hid (T (at_ (home fp n) d n) = 0) := he
  have HN : Hid (∀ d', d' < d → T (at_ (home fp n) d' n) ≠ 0) := hne
  have HR : Hid (∀ i, i < n → 0 ≤ T i ∧ T i < 18446744073709551616) := hR
  clear he hne hR
  go_enter Try.func18, Try.ntmps18
  go_wp2_with (go_at_call 28; refine (zzHome_any fp n _ h1 h2 hn).mono ?_; rintro e w' ⟨rfl, rfl⟩)
  go_loop [6, 7] (fun i s => ∃ k : Nat, k ≤ d ∧ s = .int .i64 k ∧ i = .int .i64 (at_ (home fp n) k n : Nat)) (fun _ s => d + 1 - (intOf s).toNat)
  case atStart => exact ⟨0, by omega, rfl, by rw [H0.out]⟩
  case round =>
    obtain ⟨k, hk, rfl, rfl⟩ := hrel
    have hl := HL.out k
    have hs := HS.out k
    have hrk := HR.out _ hl
    have hl2 := HL.out (k + 1)
    by_cases hlt : k < d
    · have hnz := HN.out k hlt
      generalize at_ (home fp n) k n = i at *
      generalize hj : at_ (home fp n) (k + 1) n = j at *
      have Hj : Hid (at_ (home fp n) (k + 1) n = j) := hj
      have HSj : Hid ((i + 1) % n = j) := hs
      clear hj hs
      have hb : (T i == 0) = false := beq_eq_false_iff_ne.2 hnz
      by_cases hw : i + 1 = n
      · have hbe : ((i : Int) + 1 == (n : Int)) = true := beq_iff_eq.2 (by omega)
        go_wp2_with (go_at_call 11; refine (zzSlot_any b n T i _ hT hl hn hrk.1 hrk.2).mono ?_; rintro e w' ⟨rfl, rfl⟩)
        go_round
        case rel => exact ⟨k + 1, by omega, by go_num, by rw [Hj.out, ← HSj.out, hw, Nat.mod_self]; rfl⟩
        case measure => simp [intOf]; omega
      · have hbe : ((i : Int) + 1 == (n : Int)) = false := beq_eq_false_iff_ne.2 (by omega)
        go_wp2_with (go_at_call 11; refine (zzSlot_any b n T i _ hT hl hn hrk.1 hrk.2).mono ?_; rintro e w' ⟨rfl, rfl⟩)
        go_round
        case rel => exact ⟨k + 1, by omega, by go_num, by rw [Hj.out, ← HSj.out, Nat.mod_eq_of_lt (by omega)]; rfl⟩
        case measure => simp [intOf]; omega
    · have hkd : k = d := by omega
      subst hkd
      have hzz := HE.out
      generalize hg : at_ (home fp n) k n = i at *
      have Hg : Hid (at_ (home fp n) k n = i) := hg
      clear hg
      have hb : (T i == 0) = true := beq_iff_eq.2 hzz
      clear hs HE hzz hl2 HN
      go_wp2_with (go_at_call 11; refine (zzSlot_any b n T i _ hT hl hn hrk.1 hrk.2).mono ?_; rintro e w' ⟨rfl, rfl⟩)
      go_ret
      exact ⟨by rw [Hg.out]; rfl, rfl⟩

/-- What slotOf answers: where the word stands, or -1. -/
def answer (T : Nat → Int) (i : Nat) (v : Int) : Int := if T i = v then (i : Int) else -1

set_option maxHeartbeats 1000000 in
theorem slotOf_any (dd b n : Nat) (c : Int) (T : Nat → Int) (fp o : Int) (d : Nat) (w : World) (hS : Shd w dd b n c) (hT : Tab w b n T) (hn : n ≤ 4096) (h1 : 0 ≤ fp) (h2 : fp ≤ 1073741823) (h3 : 0 ≤ o) (h4 : o ≤ 4294967295)
    (hR : ∀ i, i < n → T i = 0 ∨ (9223372036854775808 ≤ T i ∧ T i < 13835058055282163712))
    (hd : d < n) (he : T (at_ (home fp n) d n) = 0 ∨ T (at_ (home fp n) d n) = want fp o) (hne : ∀ d', d' < d → T (at_ (home fp n) d' n) ≠ 0 ∧ T (at_ (home fp n) d' n) ≠ want fp o) :
    Calls Try.prog 29 #[.pointer (some ⟨dd, 0, none⟩), .int .u64 fp, .int .i64 o] w fun e w' => e = .returned (.int .i64 (answer T (at_ (home fp n) d n) (want fp o))) ∧ But [] w w' := by
  have hn1 : 1 ≤ n := by omega
  have hh := home_lt fp n h1 h2 hn1
  have H0 : Hid (at_ (home fp n) 0 n = home fp n) := at_zero _ _ hh
  have HS : Hid (∀ k, (at_ (home fp n) k n + 1) % n = at_ (home fp n) (k + 1) n) := fun k => at_succ _ k n
  have HL : Hid (∀ k, at_ (home fp n) k n < n) := fun k => at_lt _ k n (by omega)
  have HK : Hid (∀ k, k < n → (at_ (home fp n) k n + n - home fp n) % n = k) := fun k hk => at_back _ k n hh hk
  have HE : Hid (T (at_ (home fp n) d n) = 0 ∨ T (at_ (home fp n) d n) = want fp o) := he
  have HN : Hid (∀ d', d' < d → T (at_ (home fp n) d' n) ≠ 0 ∧ T (at_ (home fp n) d' n) ≠ want fp o) := hne
  have HR : Hid (∀ i, i < n → T i = 0 ∨ (9223372036854775808 ≤ T i ∧ T i < 13835058055282163712)) := hR
  obtain ⟨hw1, hw2⟩ := want_bd fp o h1 h2 h3 h4
  clear he hne hR
  go_enter Try.func29, Try.ntmps29
  go_wp2_with (first | (go_at_call 32; refine (slotFor_any fp o _ h1 h2 h3 h4).mono ?_; rintro e w' ⟨rfl, rfl⟩) | (go_at_call 33; refine (home_any dd b n c fp _ hS h1 h2 hn).mono ?_; rintro e w' ⟨rfl, rfl⟩))
  go_loopw [8] (fun i wr => ∃ k : Nat, k ≤ d ∧ i = .int .i64 (at_ (home fp n) k n : Nat) ∧ But [] w wr) (fun i _ => d + 1 - (((intOf i).toNat + n - home fp n) % n))
  case atStart => exact ⟨0, by omega, by rw [H0.out], But.refl _ _⟩
  case round =>
    obtain ⟨k, hk, rfl, hbw⟩ := hrel
    have hl := HL.out k
    have hs := HS.out k
    have hrk := HR.out _ hl
    have hSr := hS.kept hbw (by simp)
    have hTr := hT.kept hbw (by simp)
    have hc := hSr.slots
    have hum := unmark _ hrk
    by_cases hlt : k < d
    · obtain ⟨hnz, hnw⟩ := HN.out k hlt
      have hm1 := HK.out k (by omega)
      have hm2 := HK.out (k + 1) (by omega)
      generalize at_ (home fp n) k n = i at *
      generalize hj : at_ (home fp n) (k + 1) n = j at *
      have Hj : Hid (at_ (home fp n) (k + 1) n = j) := hj
      have HSj : Hid ((i + 1) % n = j) := hs
      have M1 : Hid ((i + n - home fp n) % n = k) := hm1
      have M2 : Hid ((j + n - home fp n) % n = k + 1) := hm2
      clear hj hs hm1 hm2
      have hb : (T i == want fp o) = false := beq_eq_false_iff_ne.2 hnw
      have hb2 : (T i == 0) = false := beq_eq_false_iff_ne.2 hnz
      go_wp2_with fail
      refine (at_any b n T i _ hTr hl hn (by omega) (by omega)).mono ?_
      rintro e w1 ⟨rfl, hb1⟩
      have hS1 := hSr.kept hb1 (by simp)
      have hbw1 := hbw.trans hb1
      clear hTr hSr hbw hb1 hc
      go_wp2_with fail
      refine (next_any dd b n c i _ hS1 hl hn).mono ?_
      rintro e w2 ⟨rfl, rfl⟩
      rw [HSj.out]
      go_wp2
      go_roundw
      case rel => exact ⟨k + 1, by omega, by rw [Hj.out], hbw1⟩
      case measure => simp only [intOf, Int.toNat_natCast]; rw [M1.out, M2.out]; omega
    · have hkd : k = d := by omega
      subst hkd
      have hzz := HE.out
      generalize hg : at_ (home fp n) k n = i at *
      have Hg : Hid (at_ (home fp n) k n = i) := hg
      clear hg hs HE
      by_cases hv : T i = want fp o
      · have hb : (T i == want fp o) = true := beq_iff_eq.2 hv
        have HA : Hid (answer T i (want fp o) = i) := by unfold answer; rw [if_pos hv]; rfl
        clear hv hzz
        go_wp2_with fail
        refine (at_any b n T i _ hTr hl hn (by omega) (by omega)).mono ?_
        rintro e w1 ⟨rfl, hb1⟩
        have hbw1 := hbw.trans hb1
        clear hTr hSr hbw hb1 hc
        go_wp2_with fail
        go_ret
        exact ⟨by rw [Hg.out, HA.out]; rfl, hbw1⟩
      · have hb : (T i == want fp o) = false := beq_eq_false_iff_ne.2 hv
        have hz0 : T i = 0 := by rcases hzz with h | h; exact h; exact absurd h hv
        have hb2 : (T i == 0) = true := beq_iff_eq.2 hz0
        have HA : Hid (answer T i (want fp o) = -1) := by unfold answer; rw [if_neg hv]; rfl
        clear hv hzz hz0
        go_wp2_with fail
        refine (at_any b n T i _ hTr hl hn (by omega) (by omega)).mono ?_
        rintro e w1 ⟨rfl, hb1⟩
        have hbw1 := hbw.trans hb1
        clear hTr hSr hbw hb1 hc
        go_wp2_with fail
        go_ret
        exact ⟨by rw [Hg.out, HA.out]; rfl, hbw1⟩

theorem shardSlotOf_any (dd b n : Nat) (c : Int) (T : Nat → Int) (fp o : Int) (d : Nat) (w : World) (hS : Shd w dd b n c) (hT : Tab w b n T) (hn : n ≤ 4096) (h1 : 0 ≤ fp) (h2 : fp ≤ 1073741823) (h3 : 0 ≤ o) (h4 : o ≤ 4294967295)
    (hR : ∀ i, i < n → T i = 0 ∨ (9223372036854775808 ≤ T i ∧ T i < 13835058055282163712))
    (hd : d < n) (he : T (at_ (home fp n) d n) = 0 ∨ T (at_ (home fp n) d n) = want fp o) (hne : ∀ d', d' < d → T (at_ (home fp n) d' n) ≠ 0 ∧ T (at_ (home fp n) d' n) ≠ want fp o) :
    Calls Try.prog 15 #[.pointer (some ⟨dd, 0, none⟩), .int .u64 fp, .int .i64 o] w fun e w' => e = .returned (.int .i64 (answer T (at_ (home fp n) d n) (want fp o))) ∧ But [] w w' := by
  have HH : Hid (Calls Try.prog 29 #[.pointer (some ⟨dd, 0, none⟩), .int .u64 fp, .int .i64 o] w fun e w' => e = .returned (.int .i64 (answer T (at_ (home fp n) d n) (want fp o))) ∧ But [] w w') := slotOf_any dd b n c T fp o d w hS hT hn h1 h2 h3 h4 hR hd he hne
  clear hR he hne
  go_enter Try.func15, Try.ntmps15
  go_wp2_with fail
  refine (Calls.mono HH.out) ?_
  rintro e w1 ⟨rfl, hb1⟩
  go_wp2_with fail
  go_ret
  exact ⟨rfl, hb1⟩

end Go.Proofs.Qxb6616288a.Lnk
