import Derived.Test.Qxb6616291aMem
import Derived.Test.Qxb6616291aOrder
import Derived.Laws.CopyOwn
import Derived.Deep.DeepCutAuto
import Derived.Deep.RegionWith
namespace Go.Proofs.Qxb6616291a
open Go.RowKit

/-- Byte i of a string, nought behind its end. -/
def kb (l : List UInt8) (i : Nat) : Int := ((l.getD i 0).toNat : Int)
theorem kb_bd (l : List UInt8) (i : Nat) : 0 ≤ kb l i ∧ kb l i ≤ 255 := by
  unfold kb; have := (l.getD i 0).toNat_lt; omega
theorem kb_sum (l : List UInt8) : kb l 7 + kb l 6 * 256 + kb l 5 * 65536 + kb l 4 * 16777216 + kb l 3 * 4294967296 + kb l 2 * 1099511627776 + kb l 1 * 281474976710656 + kb l 0 * 72057594037927936 = Ord.keyOf l := by
  unfold kb Ord.keyOf
  match l with
  | [] => simp [Ord.keyN]
  | [a] => simp [Ord.keyN]
  | [a, b] => simp [Ord.keyN]; omega
  | [a, b, c] => simp [Ord.keyN]; omega
  | [a, b, c, d] => simp [Ord.keyN]; omega
  | [a, b, c, d, e] => simp [Ord.keyN]; omega
  | [a, b, c, d, e, f] => simp [Ord.keyN]; omega
  | [a, b, c, d, e, f, g] => simp [Ord.keyN]; omega
  | a :: b :: c :: d :: e :: f :: g :: h :: r => simp [Ord.keyN]; omega

theorem cells8 (l : List UInt8) (f : UInt8 → Value) : (l.take 8).map f ++ (List.replicate 8 (f 0)).drop (min l.length 8) = [f (l.getD 0 0), f (l.getD 1 0), f (l.getD 2 0), f (l.getD 3 0), f (l.getD 4 0), f (l.getD 5 0), f (l.getD 6 0), f (l.getD 7 0)] := by
  match l with
  | [] => simp [List.replicate]
  | [a] => simp [List.replicate]
  | [a, b] => simp [List.replicate]
  | [a, b, c] => simp [List.replicate]
  | [a, b, c, d] => simp [List.replicate]
  | [a, b, c, d, e] => simp [List.replicate]
  | [a, b, c, d, e, f] => simp [List.replicate]
  | [a, b, c, d, e, f, g] => simp [List.replicate]
  | a :: b :: c :: d :: e :: f :: g :: h :: r => simp [List.replicate]

theorem setRow_alloc (w : World) (cs cs' : Array Value) (t : TypeId) : (w.alloc (.cells cs t)).setRow w.heap.size cs' = w.alloc (.cells cs' t) := by
  have hh : (w.heap.push (.cells cs t)).modify w.heap.size (fun o => match o with | .cells _ elem frozen => .cells cs' elem frozen | o => o) = w.heap.push (.cells cs' t) := by
    apply Array.ext_getElem?
    intro k
    rw [Array.getElem?_modify]
    by_cases h : w.heap.size = k
    · subst h; simp
    · rw [if_neg h, Array.getElem?_push, Array.getElem?_push, if_neg (by omega), if_neg (by omega)]
  exact congrArg (fun h => ({ w with heap := h } : World)) hh

theorem copy_key (s : ByteArray) (w : World) (ty : TypeId) :
    (Builtin.copy_ #[48, 9] ty #[.slice (some ⟨w.heap.size, 0, none⟩) 8 8, .string s]).run Try.prog
      (w.alloc (.cells #[.int .u8 0, .int .u8 0, .int .u8 0, .int .u8 0, .int .u8 0, .int .u8 0, .int .u8 0, .int .u8 0] 119)) =
    .ok (goInt (s.size.min 8 : Nat)) (w.alloc (.cells #[.int .u8 (kb s.data.toList 0), .int .u8 (kb s.data.toList 1), .int .u8 (kb s.data.toList 2), .int .u8 (kb s.data.toList 3), .int .u8 (kb s.data.toList 4), .int .u8 (kb s.data.toList 5), .int .u8 (kb s.data.toList 6), .int .u8 (kb s.data.toList 7)] 119)) := by
  have hsz : ∀ w, (sizeOf 5).run Try.prog w = .ok 1 w := fun w => by kernel_rfl
  have hst := run_storeCells_at Try.prog w.heap.size 0 119 ((s.data.toList.take 8).map fun b => Value.int .u8 (b.toNat : Int)) 0 _ (w.alloc (.cells #[.int .u8 0, .int .u8 0, .int .u8 0, .int .u8 0, .int .u8 0, .int .u8 0, .int .u8 0, .int .u8 0] 119)) (heap_alloc_new w _) (by simp; omega) (by intro v hv; simp only [List.mem_map] at hv; obtain ⟨_, _, rfl⟩ := hv; rfl)
  have el : List.take (s.size.min 8) (List.map (fun b : UInt8 => Value.int IntKind.u8 ↑b.toNat) s.data.toList) = List.map (fun b : UInt8 => Value.int IntKind.u8 ↑b.toNat) (List.take 8 s.data.toList) := by
    rw [← List.map_take]
    congr 1
    have hz : s.size = s.data.toList.length := by rw [Array.length_toList]; rfl
    show List.take (min s.size 8) _ = _
    rw [hz, Nat.min_comm, ← List.take_take, List.take_length]
  have ec := cells8 s.data.toList (fun b => Value.int .u8 (b.toNat : Int))
  have er : (List.take (0 + 0) #[Value.int IntKind.u8 0, Value.int IntKind.u8 0, Value.int IntKind.u8 0, Value.int IntKind.u8 0, Value.int IntKind.u8 0, Value.int IntKind.u8 0, Value.int IntKind.u8 0, Value.int IntKind.u8 0].toList ++
      List.map (fun b : UInt8 => Value.int IntKind.u8 ↑b.toNat) (List.take 8 s.data.toList) ++
      List.drop (0 + 0 + (List.map (fun b : UInt8 => Value.int IntKind.u8 ↑b.toNat) (List.take 8 s.data.toList)).length) #[Value.int IntKind.u8 0, Value.int IntKind.u8 0, Value.int IntKind.u8 0, Value.int IntKind.u8 0, Value.int IntKind.u8 0, Value.int IntKind.u8 0, Value.int IntKind.u8 0, Value.int IntKind.u8 0].toList).toArray =
      #[.int .u8 (kb s.data.toList 0), .int .u8 (kb s.data.toList 1), .int .u8 (kb s.data.toList 2), .int .u8 (kb s.data.toList 3), .int .u8 (kb s.data.toList 4), .int .u8 (kb s.data.toList 5), .int .u8 (kb s.data.toList 6), .int .u8 (kb s.data.toList 7)] := by
    have e8 : (List.map (fun b : UInt8 => Value.int IntKind.u8 ↑b.toNat) (List.take 8 s.data.toList)).length = min s.data.toList.length 8 := by simp [Nat.min_comm]
    rw [e8, Nat.zero_add, Nat.zero_add]
    exact congrArg List.toArray ec
  rw [er, setRow_alloc] at hst
  simp only [Builtin.copy_]
  simp [Builtin.lenOf, Builtin.firstCells, hsz, run_underlying Try.underlying48]
  rw [el, hst]
  rfl

set_option maxHeartbeats 1000000 in
theorem getUint64_any (g o n c : Nat) (z0 z1 z2 z3 z4 z5 z6 z7 : Int) (w : World) (hn : 8 ≤ n)
    (c0 : w.cell? ⟨g, o, none⟩ = some (.int .u8 z0)) (c1 : w.cell? ⟨g, o + 1, none⟩ = some (.int .u8 z1)) (c2 : w.cell? ⟨g, o + 2, none⟩ = some (.int .u8 z2)) (c3 : w.cell? ⟨g, o + 3, none⟩ = some (.int .u8 z3)) (c4 : w.cell? ⟨g, o + 4, none⟩ = some (.int .u8 z4)) (c5 : w.cell? ⟨g, o + 5, none⟩ = some (.int .u8 z5)) (c6 : w.cell? ⟨g, o + 6, none⟩ = some (.int .u8 z6)) (c7 : w.cell? ⟨g, o + 7, none⟩ = some (.int .u8 z7))
    (h0 : 0 ≤ z0 ∧ z0 ≤ 255) (h1 : 0 ≤ z1 ∧ z1 ≤ 255) (h2 : 0 ≤ z2 ∧ z2 ≤ 255) (h3 : 0 ≤ z3 ∧ z3 ≤ 255) (h4 : 0 ≤ z4 ∧ z4 ≤ 255) (h5 : 0 ≤ z5 ∧ z5 ≤ 255) (h6 : 0 ≤ z6 ∧ z6 ≤ 255) (h7 : 0 ≤ z7 ∧ z7 ≤ 255) :
    Calls Try.prog 53 #[.agg #[], .slice (some ⟨g, o, none⟩) n c] w fun e w' => e = .returned (.int .u64 (z7 + z6 * 256 + z5 * 65536 + z4 * 16777216 + z3 * 4294967296 + z2 * 1099511627776 + z1 * 281474976710656 + z0 * 72057594037927936)) ∧ ∃ q, w' = (w.alloc (.cells #[] 120)).drewN q := by
  obtain ⟨a0, b0⟩ := h0
  obtain ⟨a1, b1⟩ := h1
  obtain ⟨a2, b2⟩ := h2
  obtain ⟨a3, b3⟩ := h3
  obtain ⟨a4, b4⟩ := h4
  obtain ⟨a5, b5⟩ := h5
  obtain ⟨a6, b6⟩ := h6
  obtain ⟨a7, b7⟩ := h7
  have d0 := cell_past (.cells #[] 120) c0
  have d1 := cell_past (.cells #[] 120) c1
  have d2 := cell_past (.cells #[] 120) c2
  have d3 := cell_past (.cells #[] 120) c3
  have d4 := cell_past (.cells #[] 120) c4
  have d5 := cell_past (.cells #[] 120) c5
  have d6 := cell_past (.cells #[] 120) c6
  have d7 := cell_past (.cells #[] 120) c7
  have q0 : 0 < n := by omega
  have q1 : (1 : Int) < (n : Int) := by omega
  have q2 : (2 : Int) < (n : Int) := by omega
  have q3 : (3 : Int) < (n : Int) := by omega
  have q4 : (4 : Int) < (n : Int) := by omega
  have q5 : (5 : Int) < (n : Int) := by omega
  have q6 : (6 : Int) < (n : Int) := by omega
  have q7 : (7 : Int) < (n : Int) := by omega
  go_enter Try.func53, Try.ntmps53
  go_wp2
  go_quiet (fail)
  go_wp2
  go_ret
  refine ⟨ret_u64 ?_, _, rfl⟩
  simp (disch := omega) only [u64_or8, u64_or16, u64_or24, u64_or32, u64_or40, u64_or48, u64_or56]

theorem xidKey_any (s : ByteArray) (w : World) :
    Calls Try.prog 46 #[.string s] w fun e w' => e = .returned (.int .u64 (Ord.keyOf s.data.toList)) ∧ But [] w w' := by
  have hc := copy_key s w
  have hk := kb_sum s.data.toList
  have HK : Hid (kb s.data.toList 7 + kb s.data.toList 6 * 256 + kb s.data.toList 5 * 65536 + kb s.data.toList 4 * 16777216 + kb s.data.toList 3 * 4294967296 + kb s.data.toList 2 * 1099511627776 + kb s.data.toList 1 * 281474976710656 + kb s.data.toList 0 * 72057594037927936 = Ord.keyOf s.data.toList) := hk
  have cj : ∀ j, (w.alloc (.cells #[.int .u8 (kb s.data.toList 0), .int .u8 (kb s.data.toList 1), .int .u8 (kb s.data.toList 2), .int .u8 (kb s.data.toList 3), .int .u8 (kb s.data.toList 4), .int .u8 (kb s.data.toList 5), .int .u8 (kb s.data.toList 6), .int .u8 (kb s.data.toList 7)] 119)).drew.cell? ⟨w.heap.size, j, none⟩ = (#[.int .u8 (kb s.data.toList 0), .int .u8 (kb s.data.toList 1), .int .u8 (kb s.data.toList 2), .int .u8 (kb s.data.toList 3), .int .u8 (kb s.data.toList 4), .int .u8 (kb s.data.toList 5), .int .u8 (kb s.data.toList 6), .int .u8 (kb s.data.toList 7)] : Array Value)[j]? := fun j => cell_of_row _ _ _ _ 119 (0, 0) (heap_alloc_new w _)
  have HG : Hid (Calls Try.prog 53 #[.agg #[], .slice (some ⟨w.heap.size, 0, none⟩) 8 8] (w.alloc (.cells #[.int .u8 (kb s.data.toList 0), .int .u8 (kb s.data.toList 1), .int .u8 (kb s.data.toList 2), .int .u8 (kb s.data.toList 3), .int .u8 (kb s.data.toList 4), .int .u8 (kb s.data.toList 5), .int .u8 (kb s.data.toList 6), .int .u8 (kb s.data.toList 7)] 119)).drew fun e w' => e = .returned (.int .u64 (kb s.data.toList 7 + kb s.data.toList 6 * 256 + kb s.data.toList 5 * 65536 + kb s.data.toList 4 * 16777216 + kb s.data.toList 3 * 4294967296 + kb s.data.toList 2 * 1099511627776 + kb s.data.toList 1 * 281474976710656 + kb s.data.toList 0 * 72057594037927936)) ∧ ∃ q, w' = ((w.alloc (.cells #[.int .u8 (kb s.data.toList 0), .int .u8 (kb s.data.toList 1), .int .u8 (kb s.data.toList 2), .int .u8 (kb s.data.toList 3), .int .u8 (kb s.data.toList 4), .int .u8 (kb s.data.toList 5), .int .u8 (kb s.data.toList 6), .int .u8 (kb s.data.toList 7)] 119)).drew.alloc (.cells #[] 120)).drewN q) :=
    getUint64_any w.heap.size 0 8 8 _ _ _ _ _ _ _ _ _ (by omega) (by rw [cj]; rfl) (by rw [cj]; rfl) (by rw [cj]; rfl) (by rw [cj]; rfl) (by rw [cj]; rfl) (by rw [cj]; rfl) (by rw [cj]; rfl) (by rw [cj]; rfl) (kb_bd _ _) (kb_bd _ _) (kb_bd _ _) (kb_bd _ _) (kb_bd _ _) (kb_bd _ _) (kb_bd _ _) (kb_bd _ _)
  clear hk cj
  go_enter Try.func46, Try.ntmps46
  go_wp2
  go_region_with (go_at_call 53; refine (Calls.mono HG.out) ?_; rintro e w' ⟨rfl, q, rfl⟩)
  all_goals
    go_wp2
    go_ret
    exact ⟨ret_u64 HK.out, (((But.refl _ _).alloc _).alloc _).drewN _⟩

end Go.Proofs.Qxb6616291a
