import Derived.Test.Qxb6616301aCopy
/-! The law: lineAt adds over any cut. -/
namespace Go.Proofs.Qxb6616301a
open Go.RowKit

/-- Some bool. -/
def SomeBool' (e : Ending) : Prop := ∃ b, e = .returned (.bool b)
theorem bytes10 (a : Option Addr) (len cap : Nat) (c t : Int) (w : World) (hl : len ≤ 9223372036854775807) : Calls Try.prog 10 #[.slice a len cap, .int .i64 c, .int .u32 t] w fun e w' => SomeBool' e ∧ w = w' := by
  by_cases h : (1048576 : Int) < (len : Int)
  · go_enter Try.func10, Try.ntmps10
    go_wp2_with fail
    go_ret
    exact ⟨⟨_, rfl⟩, rfl⟩
  · go_enter Try.func10, Try.ntmps10
    go_wp2_with fail
    go_ret
    exact ⟨⟨_, rfl⟩, rfl⟩

set_option maxHeartbeats 2000000 in
theorem adds_walk (a : Option Addr) (len cap : Nat) (Z : Nat → Int) (cut t : Int) (w : World) (hR : ReadsI w a len Z) (hl : len ≤ 9223372036854775807) (ht0 : 0 ≤ t) (ht1 : t < 4294967296) (hc0 : -9223372036854775808 ≤ cut) (hc1 : cut ≤ 9223372036854775807) :
    Calls Try.prog 4 #[.slice a len cap, .int .i64 cut, .int .u32 t] w fun e w' => e = .returned (.bool true) ∧ But [] w w' := by
  have HR : Hid (ReadsI w a len Z) := hR
  clear hR
  go_enter Try.func4, Try.ntmps4
  go_wp2_with fail
  refine (bytes10 a len cap cut t w hl).mono ?_
  rintro e w' ⟨⟨g, rfl⟩, rfl⟩
  cases g
  · go_wp2_with fail
    go_ret
    exact ⟨rfl, But.refl _ _⟩
  by_cases t1 : (131072 : Int) < (len : Int)
  · go_wp2_with fail
    go_ret
    exact ⟨rfl, But.refl _ _⟩
  by_cases t2 : cut < 0
  · go_wp2_with fail
    go_ret
    exact ⟨rfl, But.refl _ _⟩
  by_cases t3 : (len : Int) < cut
  · go_wp2_with fail
    go_ret
    exact ⟨rfl, But.refl _ _⟩
  obtain ⟨c, rfl⟩ : ∃ c : Nat, cut = c := ⟨cut.toNat, by omega⟩
  have hcl : c ≤ len := by omega
  clear t2 t3 hc0 hc1
  go_wp2_with fail
  refine (sorted_any a len cap Z w HR.out (by omega)).mono ?_
  rintro e w1 ⟨⟨f, rfl, hf⟩, b1⟩
  cases f
  · go_wp2_with fail
    go_ret
    exact ⟨rfl, b1⟩
  have HZ : Hid (Rises Z len) := rises_of Z len (hf rfl)
  clear hf
  go_wp2_with fail
  refine (copy_any a len cap Z w1 (HR.out.kept b1) (by omega)).mono ?_
  rintro e w2 ⟨a2, rfl, _, hR2, b2⟩
  have b2' : But [] w w2 := b1.own b2 (by simp)
  have HR2 : Hid (ReadsI w2 a2 len Z) := hR2
  clear hR2
  go_wp2_with fail
  refine (copy_any a len cap Z w2 (HR.out.kept b2') (by omega)).mono ?_
  rintro e w3 ⟨a3, rfl, o3, hR3, b3⟩
  have b3' : But [] w w3 := b2'.own b3 (by simp)
  have HR3 : Hid (ReadsI w3 a3 len Z) := hR3
  clear hR3
  obtain ⟨p3, hs1, hP⟩ := cut_to a3 len c hcl o3
  obtain ⟨q3, hs2, hQ⟩ := cut_rest a3 len c hcl o3
  have HP : Hid (∀ w Z, ReadsI w a3 len Z → ReadsI w p3 c Z) := hP
  have HQ : Hid (∀ w Z, ReadsI w a3 len Z → ReadsI w q3 (len - c) (fun j => Z (c + j))) := hQ
  clear hP hQ
  go_wp2_with fail
  refine (copy_any a3 len len Z w3 HR3.out (by omega)).mono ?_
  rintro e w4 ⟨a4, rfl, _, hR4, b4⟩
  have b34 : But [] w3 w4 := b4
  have b4' : But [] w w4 := b3'.own b4 (by simp)
  have HR4 : Hid (ReadsI w4 a4 len Z) := hR4
  clear hR4 b4
  go_wp2_with fail
  refine (copy_any p3 c len Z w4 (HP.out _ _ (HR3.out.kept b34)) (by omega)).mono ?_
  rintro e w5 ⟨a5, rfl, _, hR5, b5⟩
  have b35 : But [] w3 w5 := b34.own b5 (by simp)
  have b5' : But [] w w5 := b4'.own b5 (by simp)
  have HR5 : Hid (ReadsI w5 a5 c Z) := hR5
  clear hR5
  go_wp2_with fail
  refine (copy_any q3 (len - c) (len - c) (fun j => Z (c + j)) w5 (HQ.out _ _ (HR3.out.kept b35)) (by omega)).mono ?_
  rintro e w6 ⟨a6, rfl, _, hR6, b6⟩
  have b6' : But [] w w6 := b5'.own b6 (by simp)
  have HR6 : Hid (ReadsI w6 a6 (len - c) (fun j => Z (c + j))) := hR6
  clear hR6 hs1 hs2
  have hZp : Rises Z c := fun i j h1 h2 => HZ.out i j h1 (by omega)
  have hZs : Rises (fun j => Z (c + j)) (len - c) := fun i j h1 h2 => HZ.out (c + i) (c + j) (by omega) (by omega)
  have HZp : Hid (Rises Z c) := hZp
  have HZs : Hid (Rises (fun j => Z (c + j)) (len - c)) := hZs
  clear hZp hZs
  go_wp2_with fail
  refine (newFile_any _ a4 len len w6).mono ?_
  rintro e w7 ⟨f7, rfl, hc7, b7⟩
  have b7' : But [] w w7 := b6'.own b7 (by simp)
  have b47 : But [] w4 w7 := (b5.own b6 (by simp)).own b7 (by simp)
  have b57 : But [] w5 w7 := b6.own b7 (by simp)
  go_wp2_with fail
  refine (lineAt_any f7 a4 len len Z t w7 hc7 ht0 ht1 (HR4.out.kept b47) HZ.out (by omega)).mono ?_
  rintro e w' ⟨⟨x, rfl, hX⟩, rfl⟩
  go_wp2_with fail
  refine (newFile_any _ a5 c c w7).mono ?_
  rintro e w8 ⟨f8, rfl, hc8, b8⟩
  have b8' : But [] w w8 := b7'.own b8 (by simp)
  go_wp2_with fail
  refine (lineAt_any f8 a5 c c Z t w8 hc8 ht0 ht1 (HR5.out.kept (b57.own b8 (by simp))) HZp.out (by omega)).mono ?_
  rintro e w' ⟨⟨p, rfl, hPL⟩, rfl⟩
  go_wp2_with fail
  refine (newFile_any _ a6 (len - c) (len - c) w8).mono ?_
  rintro e w9 ⟨f9, rfl, hc9, b9⟩
  have b9' : But [] w w9 := b8'.own b9 (by simp)
  go_wp2_with fail
  refine (lineAt_any f9 a6 (len - c) (len - c) (fun j => Z (c + j)) t w9 hc9 ht0 ht1 (HR6.out.kept ((b7.own b8 (by simp)).own b9 (by simp))) HZs.out (by omega)).mono ?_
  rintro e w' ⟨⟨s, rfl, hS⟩, rfl⟩
  have hlaw := cut_law HZ.out hcl hX hPL hS
  have hpass := passed_law HZp.out hPL
  have hpl := hPL.le
  have hsl := hS.le
  have HW : Hid (ReadsI w9 a2 len Z) := ((((((HR2.out.kept b3).kept b34).kept b5).kept b6).kept b7).kept b8).kept b9
  subst hlaw
  clear hX hPL hS hc7 hc8 hc9 b1 b2 b3 b34 b35 b47 b5 b57 b6 b7 b8 b9 b2' b3' b4' b5' b6' b7' b8' o3
  rcases c with _ | m
  · have hp0 : p = 0 := by omega
    subst hp0
    clear hpass
    go_wp2_with fail
    all_goals first
      | (exfalso; rename_i h; simp only [bne_iff_ne, ne_eq] at h; omega)
      | (go_ret; exact ⟨rfl, b9'⟩)
      | (go_ret; exact ⟨by simp; omega, b9'⟩)
  · obtain ⟨b, o, rfl, hcm⟩ := HW.out m (by omega)
    rw [Nat.add_sub_cancel] at hpass
    by_cases hz : Z m < t
    · have hpe : p = m + 1 := hpass.2 (.inr hz)
      subst hpe
      clear hpass
      go_wp2_with fail
      all_goals first
        | (exfalso; rename_i h; simp only [bne_iff_ne, ne_eq] at h; omega)
        | (go_ret; exact ⟨rfl, b9'⟩)
        | (go_ret; exact ⟨by simp; omega, b9'⟩)
    · have hpe : ¬ p = m + 1 := fun e => by
        rcases hpass.1 e with h | h
        · omega
        · exact hz h
      have hpe' : ¬ (p : Int) = (m : Int) + 1 := by omega
      have e1 : ((m : Int) + 1 == 0) = false := by rw [beq_eq_false_iff_ne]; omega
      have e2 : decide (Z m < t) = false := decide_eq_false hz
      have e3 : ((p : Int) + 1 == (m : Int) + 1 + 1) = false := by rw [beq_eq_false_iff_ne]; omega
      clear hpass hpe
      go_wp2_with fail
      all_goals first
        | (exfalso; rename_i h; simp only [bne_iff_ne, ne_eq] at h; omega)
        | (go_ret; exact ⟨rfl, b9'⟩)
        | (go_ret; exact ⟨by simp; rw [e1, e2, e3]; rfl, b9'⟩)

end Go.Proofs.Qxb6616301a
