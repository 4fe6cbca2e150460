import Derived.Test.Qxb6616301aFmtBytes
namespace Go.Proofs.Qxb6616301aFmt
open Go.RowKit Go.Extern.Stop Go.Stop Go.Extern

theorem Fault.cells {w : World} {eb : Nat} {path : ByteArray} {line : Int} (h : Fault w eb path line) : w.cell? ⟨eb, 0, none⟩ = some (.string path) ∧ w.cell? ⟨eb, 1, none⟩ = some (.int .i64 line) := by
  obtain ⟨m, h⟩ := h
  refine ⟨?_, ?_⟩ <;> (rw [cell_of_row w eb _ _ 35 (0, 0) h]; rfl)
theorem Tab.lt {w : World} {tb : Nat} {line : Int} {path name : ByteArray} {keys : Value} {mb fb : Nat} (h : Tab w tb line path name keys mb fb) : tb < w.heap.size := (Array.getElem?_eq_some_iff.1 h).1
theorem File.lt {w : World} {fb : Nat} {path : ByteArray} {ep : Option Addr} (h : File w fb path ep) : fb < w.heap.size := (Array.getElem?_eq_some_iff.1 h).1

theorem info35 : (Tryf.prog.info? 35).map (fun i => i.size) = some 3 := by kernel_rfl
theorem info55 : (Tryf.prog.info? 55).map (fun i => i.size) = some 6 := by kernel_rfl
theorem neq32 (a : Addr) (w : World) : (binOp .neq 32 (.pointer (some a)) (.pointer (some a))).run Tryf.prog w = .ok (.bool false) w := by
  obtain ⟨j, hj, _⟩ := Option.map_eq_some_iff.1 info35
  exact neq_same 32 35 j a w Tryf.underlying32 hj
theorem neq25 (a : Addr) (w : World) : (binOp .neq 25 (.pointer (some a)) (.pointer (some a))).run Tryf.prog w = .ok (.bool false) w := by
  obtain ⟨j, hj, _⟩ := Option.map_eq_some_iff.1 info55
  exact neq_same 25 55 j a w Tryf.underlying25 hj

set_option maxHeartbeats 4000000 in
set_option maxRecDepth 100000 in
theorem keeps_walk (F : Interp) (fp p1 p2 : ByteArray) (l1 l2 : Int) (k1 k2 sh : ByteArray) (kl : Int) (w : World) (hF : F.answers w.tape) (z0 : fp.size ≤ 9223372036854775807) (z1 : p1.size ≤ 9223372036854775807) (z2 : p2.size ≤ 9223372036854775807) (z5 : k1.size ≤ 9223372036854775807) (z6 : k2.size ≤ 9223372036854775807) (z7 : sh.size ≤ 9223372036854775807) :
    Calls Tryf.prog 4 #[.string fp, .string p1, .string p2, .int .i64 l1, .int .i64 l2, .string k1, .string k2, .string sh, .int .i64 kl] w fun e w' => e = .returned (.bool true) ∧ But [] w w' := by
  have HF : Hid (F.answers w.tape) := hF
  clear hF
  go_enter Tryf.func4, Tryf.ntmps4
  go_wp2_with fail
  refine (bytes16 fp p1 p2 l1 l2 k1 k2 sh kl w z0 z1 z2 z5 z6 z7).mono ?_
  rintro e w' ⟨⟨g, rfl⟩, rfl⟩
  cases g
  · go_wp2_with fail
    go_ret
    exact ⟨rfl, But.refl _ _⟩
  by_cases t0 : (131072 : Int) < (fp.size : Int)
  · go_wp2_with fail
    go_ret
    exact ⟨rfl, But.refl _ _⟩
  by_cases t1 : (131072 : Int) < (p1.size : Int)
  · go_wp2_with fail
    go_ret
    exact ⟨rfl, But.refl _ _⟩
  by_cases t2 : (131072 : Int) < (p2.size : Int)
  · go_wp2_with fail
    go_ret
    exact ⟨rfl, But.refl _ _⟩
  by_cases t3 : (131072 : Int) < (k1.size : Int)
  · go_wp2_with fail
    go_ret
    exact ⟨rfl, But.refl _ _⟩
  by_cases t4 : (131072 : Int) < (k2.size : Int)
  · go_wp2_with fail
    go_ret
    exact ⟨rfl, But.refl _ _⟩
  by_cases t5 : (131072 : Int) < (sh.size : Int)
  · go_wp2_with fail
    go_ret
    exact ⟨rfl, But.refl _ _⟩
  go_wp2_with fail
  refine (newFile_any fp w).mono ?_
  rintro e w1 ⟨fb, rfl, hFi, gf, b1⟩
  go_wp2_with fail
  refine (newTable_any fb p1 l1 false w1 (by omega)).mono ?_
  rintro e w2 ⟨t1b, m1, rfl, n1, hT1, hM1, g1, g1', g1'', b2⟩
  have b02 : But [] w w2 := b1.own b2 (by simp)
  have hF2 := hFi.kept b2 (by simp)
  go_wp2_with fail
  refine (newTable_any fb p2 l2 true w2 (by omega)).mono ?_
  rintro e w3 ⟨t2b, m2, rfl, n2, hT2, hM2, g2, g2', g2'', b3⟩
  have b03 : But [] w w3 := b02.own b3 (by simp)
  have hF3 := hF2.kept b3 (by simp)
  have hT13 := hT1.kept b3 (by simp)
  have hM13 := b3.get hM1 (by simp)
  have q1 := hFi.lt
  have q2 := hT1.lt
  have q3 := (Array.getElem?_eq_some_iff.1 hM1).1
  have q4 := hT2.lt
  have q5 := (Array.getElem?_eq_some_iff.1 hM2).1
  have hans3 : F.answers w3.tape := by rw [b03.tape]; exact HF.out
  go_wp2_with fail
  refine (zzget_miss F t1b l1 p1 n1 (.slice none 0 0) m1 fb fp k1 sh w3 hT13 hF3 hans3 (look_empty m1 0 k1 w3 hM13)).mono ?_
  rintro e w4 ⟨rfl, eb, ge, hF4, hE4, b4⟩
  have b04 : But [] w w4 := b03.own b4 (by simp; omega)
  have s4 := b4.size
  have hT14 := hT13.kept b4 (by simp; omega)
  have hM14 := b4.get hM13 (by simp; omega)
  have hT24 := hT2.kept b4 (by simp; omega)
  have hM24 := b4.get hM2 (by simp; omega)
  clear hans3
  go_wp2_with fail
  refine (fileErr_any fb fp _ w4 hF4).mono ?_
  rintro e w' ⟨rfl, rfl⟩
  obtain ⟨ce0, ce1⟩ := hE4.cells
  go_wp2_with fail
  refine (zzget_again t2b l2 p2 n2 (.slice none 0 0) m2 fb fp k2 sh _ w4 hT24 hF4 (look_empty m2 0 k2 w4 hM24)).mono ?_
  rintro e w5 ⟨rfl, b5⟩
  have b05 : But [] w w5 := b04.own b5 (by simp)
  have hF5 := hF4.kept b5 (by simp)
  have hE5 := hE4.kept b5 (by simp)
  have hT15 := hT14.kept b5 (by simp)
  have hM15 := b5.get hM14 (by simp)
  have hT25 := hT24.kept b5 (by simp)
  have hM25 := b5.get hM24 (by simp)
  obtain ⟨cf0, cf1⟩ := hE5.cells
  have hn32 := neq32 ⟨eb, 0, none⟩
  clear ce0 ce1
  go_wp2_with fail
  refine (fileErr_any fb fp _ w5 hF5).mono ?_
  rintro e w' ⟨rfl, rfl⟩
  go_wp2_with fail
  refine (descend_any t2b l2 p2 n2 m2 fb k2 kl w5 hT25 hM25 (by omega) (by omega)).mono ?_
  rintro e w6 ⟨vb, cb, rfl, ⟨kb, cap, hT26, hM26, hK6, gk, b6⟩, hV6⟩
  have b06 : But [] w w6 := b05.own b6 (by simp; omega)
  have hF6 := hF5.kept b6 (by simp; omega)
  have hT16 := hT15.kept b6 (by simp; omega)
  have hM16 := b6.get hM15 (by simp; omega)
  have hn25 := neq25 ⟨cb, 0, none⟩
  clear cf0 cf1
  go_wp2_with fail
  refine (zzget_hit t2b l2 p2 n2 _ m2 fb k2 sh vb w6 hT26 (look_hit m2 1 0 k2 _ w6 hM26)).mono ?_
  rintro e w' ⟨rfl, rfl⟩
  go_wp2_with fail
  refine (valueTable_any vb kl cb w6 hV6).mono ?_
  rintro e w' ⟨rfl, rfl⟩
  go_wp2_with fail
  refine (valueLine_any vb kl cb w6 hV6).mono ?_
  rintro e w' ⟨rfl, rfl⟩
  go_wp2_with fail
  refine (fileErr_any fb fp _ w6 hF6).mono ?_
  rintro e w' ⟨rfl, rfl⟩
  go_wp2_with fail
  refine (has_miss t1b l1 p1 n1 _ m1 fb k1 w6 hT16 (look_empty m1 0 k1 w6 hM16)).mono ?_
  rintro e w' ⟨rfl, rfl⟩
  go_wp2_with fail
  refine (has_hit t2b l2 p2 n2 _ m2 fb k2 _ w6 hT26 (look_hit m2 1 0 k2 _ w6 hM26)).mono ?_
  rintro e w' ⟨rfl, rfl⟩
  go_wp2_with fail
  go_ret
  exact ⟨rfl, b06⟩

end Go.Proofs.Qxb6616301aFmt
