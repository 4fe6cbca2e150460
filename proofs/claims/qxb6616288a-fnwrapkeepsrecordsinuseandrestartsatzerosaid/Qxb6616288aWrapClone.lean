import Derived.Test.Qxb6616288aRows
import Derived.WalkKit
import Derived.ProofKit
import Derived.OpenShut
import Derived.WalkSpells
import Derived.WalkLawsBesides
namespace Go.Proofs.Qxb6616288a.Wrapc
open Go.RowKit

theorem info5 : (Try.prog.info? 5).map (fun i => (i.zero, i.size, i.bytes)) = some (some (.int .u8 0), 1, 1) := by kernel_rfl

theorem clone_nil (w : World) : Calls Try.prog 13 #[.slice none 0 0] w fun e w' => e = .returned (.slice none 0 0) ∧ w' = w := by
  have he := fun (w : World) => Lib.run_eql_slice_nil (P := Try.prog) w 22 5 none 0 0 0 0 Try.underlying22
  go_enter Try.func13, Try.ntmps13
  go_wp2
  go_ret
  exact ⟨rfl, rfl⟩

/-- zzCloneBytes of a slice that is not nil: some slice in new memory; nothing old has turned. -/
theorem clone_some (x : Addr) (len cap : Nat) (zs : List Int) (w : World) (hl : len ≤ cap) (hz : zs.length = cap) (hb : len ≤ 1048576)
    (hcell : ∀ i, i < zs.length → w.cell? (x.add i) = some (.int .u8 (zs.getD i 0))) :
    Calls Try.prog 13 #[.slice (some x) len cap] w fun e w' => (∃ a l c, e = .returned (.slice a l c)) ∧ Below w.heap.size w w' := by
  have he := fun (w : World) => Lib.run_eql_slice_nil (P := Try.prog) w 22 5 (some x) len cap 0 0 Try.underlying22
  obtain ⟨i0, hi, hz0, hz1, hz2⟩ := info_parts info5
  go_enter Try.func13, Try.ntmps13
  go_wp2_with (at_make; refine wpList_make_full _ rfl _ _ 22 rfl w.heap.size 5 i0 (.int .u8 0) 1 Try.underlying22 hi hz0 hz1 _ _ _ _ len rfl rfl rfl rfl ?c1 ?c2 ?c3 ?_)
  case c1 => rw [hz2]; omega
  case c2 => unfold maxLen; omega
  case c3 => exact Nat.le_refl _
  intro w1 hown hgrow
  go_wp2
  go_loopw [4] (fun i wr => ∃ (k : Nat) (cs : List Value), k ≤ len ∧ i = .int .i64 k ∧ wr.ownsRow w.heap.size 5 1 (.slice (some ⟨w.heap.size, 0, none⟩) len len) len cs ∧ Below w.heap.size w wr)
    (fun i _ => len - (intOf i).toNat)
  case atStart => exact ⟨0, _, Nat.zero_le _, rfl, hown, (Below.refl _ _).grown hgrow (Nat.le_refl _) (fun k hk => by cases hk)⟩
  case round =>
    obtain ⟨k, cs, hk, rfl, hownr, hbel⟩ := hrel
    by_cases hlt : k < len
    · obtain ⟨b, off, rfl, hc⟩ := ints_at hcell (by omega)
      have hck := hc k (by omega)
      have hbl : b < w.heap.size := World.block_lt_of_cell? w _ hck
      have hcr : wr.cell? ⟨b, off + k, none⟩ = some (.int .u8 (zs.getD k 0)) := (hbel.cell (p := ⟨b, off + k, none⟩) hbl).trans hck
      have hlen : cs.length = len * 1 := hownr.1
      have hold : wr.cell? ⟨w.heap.size, k, none⟩ = some cs[k] := by rw [hownr.cellAt k (by omega)]; simp
      have hfr := hownr.frozenAt k
      have hst := hownr.stored k (.int .u8 (zs.getD k 0))
      obtain ⟨hst1, hst2⟩ := hst
      have R : Below w.heap.size w (wr.setCell ⟨w.heap.size, k, none⟩ (.int .u8 (zs.getD k 0))) := hbel.setCell (p := ⟨w.heap.size, k, none⟩) (Nat.le_refl _) _
      clear hst2 hcell hc hck hown hgrow hownr
      go_wp2
      go_roundw
      case rel => exact ⟨k + 1, _, by omega, by go_num, hst1, R⟩
      case measure => simp [intOf]; omega
    · go_wp2
      go_ret
      exact ⟨⟨_, _, _, rfl⟩, hbel⟩
end Go.Proofs.Qxb6616288a.Wrapc
