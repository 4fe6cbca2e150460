import Derived.Test.Qxb6616301aCopy
/-! The law: lineAt is the line of the offset. -/
namespace Go.Proofs.Qxb6616301a
open Go.RowKit

/-- Some bool. -/
def SomeBool (e : Ending) : Prop := ∃ b, e = .returned (.bool b)
theorem bytes5 (a : Option Addr) (len cap : Nat) (t : Int) (w : World) (hl : len ≤ 9223372036854775807) : Calls Try.prog 5 #[.slice a len cap, .int .u32 t] w fun e w' => SomeBool e ∧ w = w' := by
  by_cases h : (1048576 : Int) < (len : Int)
  · go_enter Try.func5, Try.ntmps5
    go_wp2_with fail
    go_ret
    exact ⟨⟨_, rfl⟩, rfl⟩
  · go_enter Try.func5, Try.ntmps5
    go_wp2_with fail
    go_ret
    exact ⟨⟨_, rfl⟩, rfl⟩

set_option maxHeartbeats 2000000 in
theorem is_walk (a : Option Addr) (len cap : Nat) (Z : Nat → Int) (t : Int) (w : World) (hR : ReadsI w a len Z) (hl : len ≤ 9223372036854775807) (ht0 : 0 ≤ t) (ht1 : t < 4294967296) :
    Calls Try.prog 3 #[.slice a len cap, .int .u32 t] w fun e w' => e = .returned (.bool true) ∧ But [] w w' := by
  have HR : Hid (ReadsI w a len Z) := hR
  clear hR
  go_enter Try.func3, Try.ntmps3
  go_wp2_with fail
  refine (bytes5 a len cap t w hl).mono ?_
  rintro e w' ⟨⟨g, rfl⟩, rfl⟩
  cases g
  · go_wp2_with fail
    go_ret
    exact ⟨rfl, But.refl _ _⟩
  by_cases t1 : (131072 : Int) < (len : Int)
  · go_wp2_with fail
    go_ret
    exact ⟨rfl, But.refl _ _⟩
  go_wp2_with fail
  refine (sorted_any a len cap Z w HR.out (by omega)).mono ?_
  rintro e w1 ⟨⟨f, rfl, hf⟩, b1⟩
  cases f
  · go_wp2_with fail
    go_ret
    exact ⟨rfl, b1⟩
  have HZ : Hid (Rises Z len) := rises_of Z len (hf rfl)
  clear hf
  go_wp2_with fail
  refine (copy_any a len cap Z w1 (HR.out.kept b1) (by omega)).mono ?_
  rintro e w2 ⟨a2, rfl, _, hR2, b2⟩
  have b2' : But [] w w2 := b1.own b2 (by simp)
  have HR2 : Hid (ReadsI w2 a2 len Z) := hR2
  clear hR2
  go_wp2_with fail
  refine (copy_any a len cap Z w2 (HR.out.kept b2') (by omega)).mono ?_
  rintro e w3 ⟨a3, rfl, _, hR3, b3⟩
  have b3' : But [] w w3 := b2'.own b3 (by simp)
  have HR3 : Hid (ReadsI w3 a3 len Z) := hR3
  clear hR3
  go_wp2_with fail
  refine (newFile_any _ a3 len len w3).mono ?_
  rintro e w4 ⟨fb, rfl, hc, b4⟩
  have b4' : But [] w w4 := b3'.own b4 (by simp)
  go_wp2_with fail
  refine (lineAt_any fb a3 len len Z t w4 hc ht0 ht1 (HR3.out.kept b4) HZ.out (by omega)).mono ?_
  rintro e w' ⟨⟨i, rfl, hL⟩, rfl⟩
  have hi := hL.le
  have R2 := (HR2.out.kept b3).kept b4
  have HL : Hid (Lower Z len t i) := hL
  have HR2' : Hid (ReadsI w4 a2 len Z) := R2
  clear hL R2 b1 b2 b3 b4 b2' b3' hc
  by_cases hin : i < len
  · obtain ⟨b, o, rfl, hc1⟩ := HR2'.out i hin
    have h2 := HL.out.high i (Nat.le_refl _) hin
    rcases i with _ | m
    · rw [Nat.add_zero] at hc1
      go_wp2_with fail
      go_ret
      exact ⟨rfl, b4'⟩
    · obtain ⟨b', o', e', hc0⟩ := HR2'.out m (by omega)
      simp only [Option.some.injEq, Addr.mk.injEq, and_true] at e'
      obtain ⟨rfl, rfl⟩ := e'
      have h1 := HL.out.low m (by omega)
      go_wp2_with fail
      go_ret
      exact ⟨rfl, b4'⟩
  · have hie : i = len := by omega
    clear hin hi
    rcases i with _ | m
    · subst hie
      go_wp2_with fail
      go_ret
      exact ⟨rfl, b4'⟩
    · have hle1 : (m : Int) + 1 ≤ (len : Int) := by omega
      have hle2 : (len : Int) ≤ (m : Int) + 1 := by omega
      clear hie
      obtain ⟨b', o', rfl, hc0⟩ := HR2'.out m (by omega)
      have h1 := HL.out.low m (by omega)
      go_wp2_with fail
      go_ret
      exact ⟨rfl, b4'⟩

end Go.Proofs.Qxb6616301a
