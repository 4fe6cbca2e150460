import Derived.Test.Qxb6616301aFmtDesc
namespace Go.Proofs.Qxb6616301aFmt
open Go.RowKit Go.Extern.Stop Go.Stop Go.Extern

theorem descend_any (tb : Nat) (line : Int) (path name : ByteArray) (mb fb : Nat) (key : ByteArray) (kline : Int) (w : World) (hT : Tab w tb line path name (.slice none 0 0) mb fb) (hM : w.heap[mb]? = some (.map #[] 0)) (hp : path.size ≤ 300000) (hk : key.size ≤ 300000) :
    Calls Tryf.prog 8 #[.pointer (some ⟨fb, 0, none⟩), .pointer (some ⟨tb, 0, none⟩), .string key, .int .i64 kline] w fun e w' => Descended w w' tb mb fb line path name key kline e := by
  have H : Hid (Calls Tryf.prog 18 #[.pointer (some ⟨fb, 0, none⟩), .pointer (some ⟨tb, 0, none⟩), .agg #[.string key, .int .i64 kline]] w fun e w' => Descended w w' tb mb fb line path name key kline e) := descend18 tb line path name mb fb key kline w hT hM hp hk
  go_enter Tryf.func8, Tryf.ntmps8
  go_wp2_with fail
  refine (Calls.mono H.out) ?_
  rintro e w' ⟨vb, cb, rfl, h⟩
  go_wp2_with fail
  go_ret
  exact ⟨vb, cb, rfl, h⟩
theorem zzget_hit (tb : Nat) (line : Int) (path name : ByteArray) (keys : Value) (mb fb : Nat) (key shown : ByteArray) (vb : Nat) (w : World) (hT : Tab w tb line path name keys mb fb)
    (hL : (Instr.lookup 53 (.map (some mb)) (.string key) false).run Tryf.prog w = .ok (.pointer (some ⟨vb, 0, none⟩)) w) :
    Calls Tryf.prog 9 #[.pointer (some ⟨tb, 0, none⟩), .string key, .string shown] w fun e w' => e = .returned (.pointer (some ⟨vb, 0, none⟩)) ∧ w = w' := by
  have H : Hid (Calls Tryf.prog 19 #[.pointer (some ⟨tb, 0, none⟩), .string key, .string shown] w fun e w' => e = .returned (.pointer (some ⟨vb, 0, none⟩)) ∧ w = w') := get_hit tb line path name keys mb fb key shown vb w hT hL
  clear hL
  go_enter Tryf.func9, Tryf.ntmps9
  go_wp2_with fail
  refine (Calls.mono H.out) ?_
  rintro e w' ⟨rfl, rfl⟩
  go_wp2_with fail
  go_ret
  exact ⟨rfl, rfl⟩
theorem zzget_miss (F : Interp) (tb : Nat) (line : Int) (path name : ByteArray) (keys : Value) (mb fb : Nat) (fpath key shown : ByteArray) (w : World) (hT : Tab w tb line path name keys mb fb) (hFi : File w fb fpath none) (hF : F.answers w.tape)
    (hL : (Instr.lookup 53 (.map (some mb)) (.string key) false).run Tryf.prog w = .ok (.pointer none) w) :
    Calls Tryf.prog 9 #[.pointer (some ⟨tb, 0, none⟩), .string key, .string shown] w fun e w' => e = .returned (.pointer none) ∧ Faulted w w' fb fpath line := by
  have H : Hid (Calls Tryf.prog 19 #[.pointer (some ⟨tb, 0, none⟩), .string key, .string shown] w fun e w' => e = .returned (.pointer none) ∧ Faulted w w' fb fpath line) := get_miss F tb line path name keys mb fb fpath key shown w hT hFi hF hL
  clear hL hF
  go_enter Tryf.func9, Tryf.ntmps9
  go_wp2_with fail
  refine (Calls.mono H.out) ?_
  rintro e w' ⟨rfl, h⟩
  go_wp2_with fail
  go_ret
  exact ⟨rfl, h⟩
theorem zzget_again (tb : Nat) (line : Int) (path name : ByteArray) (keys : Value) (mb fb : Nat) (fpath key shown : ByteArray) (a : Addr) (w : World) (hT : Tab w tb line path name keys mb fb) (hFi : File w fb fpath (some a))
    (hL : (Instr.lookup 53 (.map (some mb)) (.string key) false).run Tryf.prog w = .ok (.pointer none) w) :
    Calls Tryf.prog 9 #[.pointer (some ⟨tb, 0, none⟩), .string key, .string shown] w fun e w' => e = .returned (.pointer none) ∧ But [] w w' := by
  have H : Hid (Calls Tryf.prog 19 #[.pointer (some ⟨tb, 0, none⟩), .string key, .string shown] w fun e w' => e = .returned (.pointer none) ∧ But [] w w') := get_again tb line path name keys mb fb fpath key shown a w hT hFi hL
  clear hL
  go_enter Tryf.func9, Tryf.ntmps9
  go_wp2_with fail
  refine (Calls.mono H.out) ?_
  rintro e w' ⟨rfl, h⟩
  go_wp2_with fail
  go_ret
  exact ⟨rfl, h⟩
theorem valueTable_any (vb : Nat) (kline : Int) (cb : Nat) (w : World) (h : Val w vb kline cb) : Calls Tryf.prog 10 #[.pointer (some ⟨vb, 0, none⟩)] w fun e w' => e = .returned (.pointer (some ⟨cb, 0, none⟩)) ∧ w = w' := by
  obtain ⟨h0, h1, h3⟩ := h.cells
  go_enter Tryf.func10, Tryf.ntmps10
  go_wp2_with fail
  go_ret
  exact ⟨rfl, rfl⟩
theorem valueLine_any (vb : Nat) (kline : Int) (cb : Nat) (w : World) (h : Val w vb kline cb) : Calls Tryf.prog 11 #[.pointer (some ⟨vb, 0, none⟩)] w fun e w' => e = .returned (.int .i64 kline) ∧ w = w' := by
  obtain ⟨h0, h1, h3⟩ := h.cells
  go_enter Tryf.func11, Tryf.ntmps11
  go_wp2_with fail
  go_ret
  exact ⟨rfl, rfl⟩
theorem fileErr_any (fb : Nat) (path : ByteArray) (ep : Option Addr) (w : World) (h : File w fb path ep) : Calls Tryf.prog 12 #[.pointer (some ⟨fb, 0, none⟩)] w fun e w' => e = .returned (.pointer ep) ∧ w = w' := by
  have hc := cell_of_row w fb 2 _ 43 (0, 0) h
  simp only [List.getElem?_toArray, List.getElem?_cons_succ, List.getElem?_cons_zero] at hc
  go_enter Tryf.func12, Tryf.ntmps12
  go_wp2_with fail
  go_ret
  exact ⟨rfl, rfl⟩
theorem has_hit (tb : Nat) (line : Int) (path name : ByteArray) (keys : Value) (mb fb : Nat) (key : ByteArray) (a : Addr) (w : World) (hT : Tab w tb line path name keys mb fb)
    (hL : (Instr.lookup 53 (.map (some mb)) (.string key) false).run Tryf.prog w = .ok (.pointer (some a)) w) :
    Calls Tryf.prog 13 #[.pointer (some ⟨tb, 0, none⟩), .string key] w fun e w' => e = .returned (.bool true) ∧ w = w' := by
  obtain ⟨h0, h1, h2, h3, h4, h5⟩ := hT.cells
  go_enter Tryf.func13, Tryf.ntmps13
  go_wp2_with fail
  go_ret
  exact ⟨rfl, rfl⟩
theorem has_miss (tb : Nat) (line : Int) (path name : ByteArray) (keys : Value) (mb fb : Nat) (key : ByteArray) (w : World) (hT : Tab w tb line path name keys mb fb)
    (hL : (Instr.lookup 53 (.map (some mb)) (.string key) false).run Tryf.prog w = .ok (.pointer none) w) :
    Calls Tryf.prog 13 #[.pointer (some ⟨tb, 0, none⟩), .string key] w fun e w' => e = .returned (.bool false) ∧ w = w' := by
  obtain ⟨h0, h1, h2, h3, h4, h5⟩ := hT.cells
  go_enter Tryf.func13, Tryf.ntmps13
  go_wp2_with fail
  go_ret
  exact ⟨rfl, rfl⟩
theorem neq_same (t e : TypeId) (j : TypeInfo) (a : Addr) (w : World) (hp : Tryf.prog.underlying t = some (.pointer e)) (hj : Tryf.prog.info? e = some j) : (binOp .neq t (.pointer (some a)) (.pointer (some a))).run Tryf.prog w = .ok (.bool false) w := by
  have h : ∀ d : Nat, (Op.equalIn (d + 1) t (.pointer (some a)) (.pointer (some a))).run Tryf.prog w = .ok true w := fun d => by
    simp [Op.equalIn, run_underlying hp, sizeOf, typeInfo, hj, run_sameAddr_same]
  simp only [binOp]
  simp [Op.equal, Op.maxDepth, h 9999]

end Go.Proofs.Qxb6616301aFmt
