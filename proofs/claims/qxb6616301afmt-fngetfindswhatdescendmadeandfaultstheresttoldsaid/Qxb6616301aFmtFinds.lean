import Derived.Test.Qxb6616301aFmtKeys
namespace Go.Proofs.Qxb6616301aFmt
open Go.RowKit Go.Extern.Stop Go.Stop Go.Extern

set_option maxHeartbeats 4000000 in
set_option maxRecDepth 100000 in
theorem finds_walk (F : Interp) (fp tp : ByteArray) (tl : Int) (ia : Bool) (key other sh : ByteArray) (kl : Int) (w : World) (hF : F.answers w.tape) (z0 : fp.size ≤ 9223372036854775807) (z1 : tp.size ≤ 9223372036854775807) (z4 : key.size ≤ 9223372036854775807) (z5 : other.size ≤ 9223372036854775807) (z6 : sh.size ≤ 9223372036854775807) :
    Calls Tryf.prog 3 #[.string fp, .string tp, .int .i64 tl, .bool ia, .string key, .string other, .string sh, .int .i64 kl] w fun e w' => e = .returned (.bool true) ∧ But [] w w' := by
  have HF : Hid (F.answers w.tape) := hF
  clear hF
  go_enter Tryf.func3, Tryf.ntmps3
  go_wp2_with fail
  refine (bytes5 fp tp tl ia key other sh kl w z0 z1 z4 z5 z6).mono ?_
  rintro e w' ⟨⟨g, rfl⟩, rfl⟩
  cases g
  · go_wp2_with fail
    go_ret
    exact ⟨rfl, But.refl _ _⟩
  by_cases t0 : (131072 : Int) < (fp.size : Int)
  · go_wp2_with fail
    go_ret
    exact ⟨rfl, But.refl _ _⟩
  by_cases t1 : (131072 : Int) < (tp.size : Int)
  · go_wp2_with fail
    go_ret
    exact ⟨rfl, But.refl _ _⟩
  by_cases t3 : (131072 : Int) < (key.size : Int)
  · go_wp2_with fail
    go_ret
    exact ⟨rfl, But.refl _ _⟩
  by_cases t4 : (131072 : Int) < (other.size : Int)
  · go_wp2_with fail
    go_ret
    exact ⟨rfl, But.refl _ _⟩
  by_cases t5 : (131072 : Int) < (sh.size : Int)
  · go_wp2_with fail
    go_ret
    exact ⟨rfl, But.refl _ _⟩
  by_cases tk : key = other
  · go_wp2_with fail
    go_ret
    exact ⟨rfl, But.refl _ _⟩
  have HK : Hid (¬ other = key) := fun e => tk e.symm
  clear tk
  go_wp2_with fail
  · go_ret
    exact ⟨rfl, But.refl _ _⟩
  refine (newFile_any fp w).mono ?_
  rintro e w1 ⟨fb, rfl, hFi, gf, b1⟩
  go_wp2_with fail
  refine (newTable_any fb tp tl ia w1 (by omega)).mono ?_
  rintro e w2 ⟨tb, mb, rfl, nm, hT2, hM2, g1, g1', g1'', b2⟩
  have b02 : But [] w w2 := b1.own b2 (by simp)
  have hF2 := hFi.kept b2 (by simp)
  have q1 := hFi.lt
  have q2 := hT2.lt
  have q3 := (Array.getElem?_eq_some_iff.1 hM2).1
  go_wp2_with fail
  refine (descend_any tb tl tp nm mb fb key kl w2 hT2 hM2 (by omega) (by omega)).mono ?_
  rintro e w3 ⟨vb, cb, rfl, ⟨kb, cap, hT3, hM3, hK3, gk, b3⟩, hV3⟩
  have b03 : But [] w w3 := b02.own b3 (by simp; omega)
  have s3 := b3.size
  have hF3 := hF2.kept b3 (by simp; omega)
  have hn25 := neq25 ⟨cb, 0, none⟩
  go_wp2_with fail
  refine (zzget_hit tb tl tp nm _ mb fb key sh vb w3 hT3 (look_hit mb 1 0 key _ w3 hM3)).mono ?_
  rintro e w' ⟨rfl, rfl⟩
  go_wp2_with fail
  refine (valueTable_any vb kl cb w3 hV3).mono ?_
  rintro e w' ⟨rfl, rfl⟩
  go_wp2_with fail
  refine (valueLine_any vb kl cb w3 hV3).mono ?_
  rintro e w' ⟨rfl, rfl⟩
  go_wp2_with fail
  refine (fileErr_any fb fp _ w3 hF3).mono ?_
  rintro e w' ⟨rfl, rfl⟩
  have hans3 : F.answers w3.tape := by rw [b03.tape]; exact HF.out
  go_wp2_with fail
  refine (zzget_miss F tb tl tp nm _ mb fb fp other sh w3 hT3 hF3 hans3 (look_miss mb 1 0 other key _ w3 hM3 HK.out)).mono ?_
  rintro e w4 ⟨rfl, eb, ge, hF4, hE4, b4⟩
  have b04 : But [] w w4 := b03.own b4 (by simp; omega)
  have s4 := b4.size
  have hT4 := hT3.kept b4 (by simp; omega)
  have hM4 := b4.get hM3 (by simp; omega)
  have hK4 := b4.cell hK3 (by simp; omega)
  clear hans3
  go_wp2_with fail
  refine (fileErr_any fb fp _ w4 hF4).mono ?_
  rintro e w' ⟨rfl, rfl⟩
  obtain ⟨ce0, ce1⟩ := hE4.cells
  go_wp2_with fail
  refine (has_miss tb tl tp nm _ mb fb other w4 hT4 (look_miss mb 1 0 other key _ w4 hM4 HK.out)).mono ?_
  rintro e w' ⟨rfl, rfl⟩
  go_wp2_with fail
  refine (has_hit tb tl tp nm _ mb fb key _ w4 hT4 (look_hit mb 1 0 key _ w4 hM4)).mono ?_
  rintro e w' ⟨rfl, rfl⟩
  go_wp2_with fail
  refine (tableKeys_any tb tl tp nm _ mb fb w4 hT4).mono ?_
  rintro e w' ⟨rfl, rfl⟩
  go_wp2_with fail
  have hK5 := cell_past (.cells #[.string key] 9) hK4
  have hY5 : (w4.alloc (.cells #[.string key] 9)).cell? ⟨w4.heap.size, 0, none⟩ = some (.string key) := by
    rw [cell_of_row _ _ 0 _ 9 (0, 0) (heap_alloc_new w4 _)]; rfl
  refine (keysAre_one kb w4.heap.size cap 1 key _ hK5 hY5).mono ?_
  rintro e w6 ⟨rfl, b6⟩
  go_wp2_with fail
  go_ret
  exact ⟨rfl, (b04.alloc _).own b6 (by simp)⟩

end Go.Proofs.Qxb6616301aFmt
