import Derived.Test.Qxb6616301aFmtKeeps
namespace Go.Proofs.Qxb6616301aFmt
open Go.RowKit Go.Extern.Stop Go.Stop Go.Extern

theorem tableKeys_any (tb : Nat) (line : Int) (path name : ByteArray) (keys : Value) (mb fb : Nat) (w : World) (hT : Tab w tb line path name keys mb fb) :
    Calls Tryf.prog 15 #[.pointer (some ⟨tb, 0, none⟩)] w fun e w' => e = .returned keys ∧ w = w' := by
  obtain ⟨h0, h1, h2, h3, h4, h5⟩ := hT.cells
  go_enter Tryf.func15, Tryf.ntmps15
  go_wp2_with fail
  go_ret
  exact ⟨rfl, rfl⟩

set_option maxHeartbeats 1000000 in
/-- Two slices of one key each. -/
theorem keysAre_one (x y cx cy : Nat) (key : ByteArray) (w : World) (hx : w.cell? ⟨x, 0, none⟩ = some (.string key)) (hy : w.cell? ⟨y, 0, none⟩ = some (.string key)) :
    Calls Tryf.prog 14 #[.slice (some ⟨x, 0, none⟩) 1 cx, .slice (some ⟨y, 0, none⟩) 1 cy] w fun e w' => e = .returned (.bool true) ∧ But [] w w' := by
  go_enter Tryf.func14, Tryf.ntmps14
  go_wp2_with fail
  go_loopw [5] (fun i wx => ∃ k : Nat, k ≤ 1 ∧ i = .int .i64 k ∧ But [] w wx) (fun i _ => 1 - (intOf i).toNat)
  case atStart => exact ⟨0, by omega, rfl, But.refl _ _⟩
  case round =>
    obtain ⟨k, hk, rfl, hb⟩ := hrel
    by_cases hlt : k < 1
    · obtain rfl : k = 0 := by omega
      have hx' := hb.cell hx (by simp)
      have hy' := hb.cell hy (by simp)
      go_wp2_with fail
      go_quiet (fail)
      go_wp2_with fail
      go_roundw
      case rel => exact ⟨1, by omega, by go_num, hb.drewN _⟩
      case measure => simp [intOf]
    · obtain rfl : k = 1 := by omega
      go_wp2_with fail
      go_ret
      exact ⟨rfl, hb⟩

end Go.Proofs.Qxb6616301aFmt
