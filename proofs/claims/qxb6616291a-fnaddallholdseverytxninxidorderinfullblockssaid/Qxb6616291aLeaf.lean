import Derived.Test.Qxb6616291aKey
import Derived.Test.Qxb6616291aShelf
namespace Go.Proofs.Qxb6616291a
open Go.RowKit

def SomeBool (e : Ending) : Prop := ∃ b, e = .returned (.bool b)
/-- Some int between lo and hi. -/
def SomeInt (lo hi : Int) (e : Ending) : Prop := ∃ r, lo ≤ r ∧ r ≤ hi ∧ e = .returned (.int .i64 r)

theorem zzAdd_any (n k : Int) (w : World) (h1 : 0 ≤ n) (h2 : n ≤ 4194304) (h3 : 0 ≤ k) (h4 : k ≤ 9223372036854775807) :
    Calls Try.prog 42 #[.int .i64 n, .int .i64 k] w fun e w' => SomeInt 0 2097152 e ∧ w = w' := by
  by_cases c1 : 1048576 < n
  · go_enter Try.func42, Try.ntmps42
    go_wp2
    go_ret
    exact ⟨⟨_, by omega, by omega, rfl⟩, rfl⟩
  · by_cases c2 : 1048576 < k
    · go_enter Try.func42, Try.ntmps42
      go_wp2
      go_ret
      exact ⟨⟨_, by omega, by omega, rfl⟩, rfl⟩
    · go_enter Try.func42, Try.ntmps42
      go_wp2
      go_ret
      exact ⟨⟨n + k, by omega, by omega, rfl⟩, rfl⟩

/-- The slice a reads the strings S, for as many as len. -/
def ReadsS (w : World) (a : Option Addr) (len : Nat) (S : Nat → ByteArray) : Prop :=
  ∀ j, j < len → ∃ b o, a = some ⟨b, o, none⟩ ∧ w.cell? ⟨b, o + j, none⟩ = some (.string (S j))
theorem ReadsS.kept {w w' : World} {a : Option Addr} {len : Nat} {S : Nat → ByteArray} (h : ReadsS w a len S) (hb : Below w.heap.size w w') : ReadsS w' a len S := by
  intro j hj
  obtain ⟨b, o, e, hc⟩ := h j hj
  exact ⟨b, o, e, (hb.cell (p := ⟨b, o + j, none⟩) (World.block_lt_of_cell? w _ hc)).trans hc⟩

set_option maxHeartbeats 1000000 in
theorem stringsBytes_any (a : Option Addr) (len cap : Nat) (S : Nat → ByteArray) (n : Int) (w : World) (hR : ReadsS w a len S) (hS : ∀ j, j < len → (S j).size ≤ 9223372036854775807) (hl : len ≤ 9223372036854775807) (h1 : 0 ≤ n) (h2 : n ≤ 4194304) :
    Calls Try.prog 8 #[.slice a len cap, .int .i64 n] w fun e w' => SomeInt 0 4194304 e ∧ w = w' := by
  have HR : Hid (ReadsS w a len S) := hR
  have HS : Hid (∀ j, j < len → (S j).size ≤ 9223372036854775807) := hS
  clear hR hS
  go_enter Try.func8, Try.ntmps8
  go_wp2_with fail
  go_loop [1, 5] (fun m i => ∃ (k : Nat) (r : Int), k ≤ len ∧ i = .int .i64 k ∧ m = .int .i64 r ∧ 0 ≤ r ∧ r ≤ 4194304) (fun _ i => len - (intOf i).toNat)
  case atStart => exact ⟨0, n, by omega, rfl, rfl, h1, h2⟩
  case round =>
    obtain ⟨k, r, hk, rfl, rfl, g1, g2⟩ := hrel
    by_cases hlt : k < len
    · obtain ⟨b, o, rfl, c⟩ := HR.out k hlt
      have hsz := HS.out k hlt
      go_wp2_with fail
      refine (zzAdd_any r 16 _ g1 g2 (by omega) (by omega)).mono ?_
      rintro e w' ⟨⟨r2, p1, p2, rfl⟩, rfl⟩
      go_wp2_with fail
      refine (zzAdd_any r2 ((S k).size : Int) _ p1 (by omega) (by omega) (by omega)).mono ?_
      rintro e w' ⟨⟨r3, q1, q2, rfl⟩, rfl⟩
      by_cases hb : 1048576 < r3
      · go_wp2_with fail
        go_ret
        exact ⟨⟨r3, q1, by omega, rfl⟩, rfl⟩
      · go_wp2_with fail
        go_round
        case rel => exact ⟨k + 1, r3, by omega, by go_num, rfl, q1, by omega⟩
        case measure => simp [intOf]; omega
    · go_wp2_with fail
      go_ret
      exact ⟨⟨r, g1, g2, rfl⟩, rfl⟩

theorem xidAt_any (a1 a2 : Option Addr) (l1 c1 l2 c2 : Nat) (S1 S2 : Nat → ByteArray) (i : Nat) (w : World) (h1 : ReadsS w a1 l1 S1) (h2 : ReadsS w a2 l2 S2) (hi : i < l1 + l2) (_b1 : l1 ≤ 65536) (_b2 : l2 ≤ 65536) :
    Calls Try.prog 11 #[.slice a1 l1 c1, .slice a2 l2 c2, .int .i64 i] w fun e w' => e = .returned (.string (if i < l1 then S1 i else S2 (i - l1))) ∧ w = w' := by
  by_cases c : i < l1
  · obtain ⟨b, o, rfl, hc⟩ := h1 i c
    rw [if_pos c]
    clear h1 h2
    go_enter Try.func11, Try.ntmps11
    go_wp2
    go_ret
    exact ⟨rfl, rfl⟩
  · obtain ⟨b, o, rfl, hc⟩ := h2 (i - l1) (by omega)
    rw [if_neg c]
    clear h1 h2
    go_enter Try.func11, Try.ntmps11
    go_wp2
    go_ret
    exact ⟨rfl, rfl⟩

theorem newTxn_any (s : ByteArray) (q : Int) (w : World) :
    Calls Try.prog 10 #[.string s, .int .u64 q] w fun e w' => e = .returned (.pointer (some ⟨w.heap.size, 0, none⟩)) ∧ w' = w.alloc (.cells #[.int .i32 0, .int .u32 0, .string s, .string ⟨#[]⟩, .pointer none, .slice none 0 0, .int .u64 0, .int .i64 0, .pointer none, .pointer none, .int .u64 q, .int .u64 0, .int .i64 0, .pointer none, .int .u64 0, .int .i64 0, .pointer none, .pointer none, .int .i64 0, .slice none 0 0] 104) := by
  go_enter Try.func10, Try.ntmps10
  go_wp2
  go_ret
  exact ⟨rfl, rfl⟩

/-- Block tb is a transaction of xid s and number q. -/
def Txn (w : World) (tb : Nat) (s : ByteArray) (q : Int) : Prop :=
  ∃ cs : Array Value, w.heap[tb]? = some (.cells cs 104 (0, 0)) ∧ cs[2]? = some (.string s) ∧ cs[10]? = some (.int .u64 q)
theorem Txn.made (s : ByteArray) (q : Int) (w : World) : Txn (w.alloc (.cells #[.int .i32 0, .int .u32 0, .string s, .string ⟨#[]⟩, .pointer none, .slice none 0 0, .int .u64 0, .int .i64 0, .pointer none, .pointer none, .int .u64 q, .int .u64 0, .int .i64 0, .pointer none, .int .u64 0, .int .i64 0, .pointer none, .pointer none, .int .i64 0, .slice none 0 0] 104)) w.heap.size s q := ⟨_, heap_alloc_new w _, rfl, rfl⟩
theorem Txn.xid {w : World} {tb : Nat} {s : ByteArray} {q : Int} (h : Txn w tb s q) : w.cell? ⟨tb, 2, none⟩ = some (.string s) := by
  obtain ⟨cs, h1, h2, h3⟩ := h
  rw [cell_of_row w tb 2 cs 104 (0, 0) h1, h2]
theorem Txn.seq {w : World} {tb : Nat} {s : ByteArray} {q : Int} (h : Txn w tb s q) : w.cell? ⟨tb, 10, none⟩ = some (.int .u64 q) := by
  obtain ⟨cs, h1, h2, h3⟩ := h
  rw [cell_of_row w tb 10 cs 104 (0, 0) h1, h3]
theorem Txn.kept {bs : List Nat} {w w' : World} {tb : Nat} {s : ByteArray} {q : Int} (h : Txn w tb s q) (hb : But bs w w') (hn : ¬ tb ∈ bs) : Txn w' tb s q := by
  obtain ⟨cs, h1, h2, h3⟩ := h
  exact ⟨cs, hb.get h1 hn, h2, h3⟩
theorem Txn.lt {w : World} {tb : Nat} {s : ByteArray} {q : Int} (h : Txn w tb s q) : tb < w.heap.size := by
  obtain ⟨cs, h1, h2, h3⟩ := h
  exact (Array.getElem?_eq_some_iff.1 h1).1
/-- A block of another kind is another block. -/
theorem Txn.ne {w : World} {tb b : Nat} {s : ByteArray} {q : Int} (h : Txn w tb s q) {cs : Array Value} {t : TypeId} (hb : w.heap[b]? = some (.cells cs t (0, 0))) (ht : t ≠ 104) : tb ≠ b := by
  obtain ⟨cs', h1, h2, h3⟩ := h
  rintro rfl
  rw [h1] at hb
  simp at hb
  exact ht hb.2.symm

theorem txnXid_any (tb : Nat) (s : ByteArray) (q : Int) (w : World) (h : Txn w tb s q) :
    Calls Try.prog 20 #[.pointer (some ⟨tb, 0, none⟩)] w fun e w' => e = .returned (.string s) ∧ w = w' := by
  have hc := h.xid
  go_enter Try.func20, Try.ntmps20
  go_wp2
  go_ret
  exact ⟨rfl, rfl⟩
theorem txnSeq_any (tb : Nat) (s : ByteArray) (q : Int) (w : World) (h : Txn w tb s q) :
    Calls Try.prog 16 #[.pointer (some ⟨tb, 0, none⟩)] w fun e w' => e = .returned (.int .u64 q) ∧ w = w' := by
  have hc := h.seq
  go_enter Try.func16, Try.ntmps16
  go_wp2
  go_ret
  exact ⟨rfl, rfl⟩
theorem fields_any (k : Int) (p : Option Addr) (w : World) :
    Calls Try.prog 15 #[.agg #[.int .u64 k, .pointer p]] w fun e w' => e = .returned (.tuple #[.int .u64 k, .pointer p]) ∧ But [] w w' := by
  go_enter Try.func15, Try.ntmps15
  go_wp2
  go_quiet (fail)
  go_wp2
  go_ret2
  exact ⟨rfl, ((But.refl _ _).alloc _).drewN _⟩
theorem blocks_any (xb : Nat) (v : Value) (w : World) (a : Option Addr) (l c : Nat) (hv : v = .slice a l c) (hc : w.cell? ⟨xb, 0, none⟩ = some v) :
    Calls Try.prog 14 #[.pointer (some ⟨xb, 0, none⟩)] w fun e w' => e = .returned v ∧ w = w' := by
  subst hv
  go_enter Try.func14, Try.ntmps14
  go_wp2
  go_ret
  exact ⟨rfl, rfl⟩

theorem strings_Compare (a b : ByteArray) (w : World) :
    Calls Try.prog 56 #[.string a, .string b] w fun e w' => e = .returned (.int .i64 (Lib.compareBytes a.data.toList b.data.toList)) ∧ w' = w := Any.strings_Compare Try.lays106 a b w

/-- What zzKey has gathered behind k rounds. -/
def keyTo (l : List UInt8) : Nat → Int
  | 0 => 0
  | k + 1 => keyTo l k * 256 + kb l k
theorem keyTo_bd (l : List UInt8) : ∀ k, 0 ≤ keyTo l k ∧ keyTo l k < 256 ^ k
  | 0 => by simp [keyTo]
  | k + 1 => by
    have h1 := keyTo_bd l k
    have h2 := kb_bd l k
    simp only [keyTo]
    rw [Int.pow_succ]
    generalize (256 : Int) ^ k = Q at *
    omega
theorem keyTo_eight (l : List UInt8) : keyTo l 8 = Ord.keyOf l := by
  rw [← kb_sum l]; simp only [keyTo]; omega
theorem keyTo_bd8 (l : List UInt8) (k : Nat) (h : k < 8) : 0 ≤ keyTo l k ∧ keyTo l k < 72057594037927936 := by
  have h1 := keyTo_bd l k
  have hc : k = 0 ∨ k = 1 ∨ k = 2 ∨ k = 3 ∨ k = 4 ∨ k = 5 ∨ k = 6 ∨ k = 7 := by omega
  rcases hc with rfl | rfl | rfl | rfl | rfl | rfl | rfl | rfl <;> omega
theorem or_byte (x b : Int) (h1 : 0 ≤ x) (h2 : x < 72057594037927936) (h3 : 0 ≤ b) (h4 : b ≤ 255) : bits .or .u64 (x * 256) b = x * 256 + b := by
  rw [u64_or _ _ (by omega) (by omega) (by omega) (by omega)]
  have e := Nat.two_pow_add_eq_or_of_lt (b := b.toNat) (i := 8) (by omega) x.toNat
  have e2 : (x * 256).toNat = 2 ^ 8 * x.toNat := by omega
  rw [e2, ← e]
  omega
theorem kb_in (s : ByteArray) (k : Nat) (h : k < s.size) : kb s.data.toList k = (s[k].toNat : Int) := by
  have h' : k < s.data.toList.length := by rw [Array.length_toList]; exact h
  unfold kb
  rw [List.getD_eq_getElem?_getD, List.getElem?_eq_getElem h']
  rfl
theorem kb_out (s : ByteArray) (k : Nat) (h : ¬ k < s.size) : kb s.data.toList k = 0 := by
  have h' : s.data.toList.length ≤ k := by rw [Array.length_toList]; exact Nat.not_lt.1 h
  unfold kb
  rw [List.getD_eq_getElem?_getD, List.getElem?_eq_none h']
  rfl

set_option maxHeartbeats 1000000 in
theorem zzKey_any (s : ByteArray) (w : World) (_hs : s.size ≤ 9223372036854775807) :
    Calls Try.prog 17 #[.string s] w fun e w' => e = .returned (.int .u64 (Ord.keyOf s.data.toList)) ∧ w = w' := by
  have H8 : Hid (keyTo s.data.toList 8 = Ord.keyOf s.data.toList) := keyTo_eight _
  go_enter Try.func17, Try.ntmps17
  go_wp2_with fail
  go_loop [3, 4] (fun v i => ∃ k : Nat, k ≤ 8 ∧ i = .int .i64 k ∧ v = .int .u64 (keyTo s.data.toList k)) (fun _ i => 8 - (intOf i).toNat)
  case atStart => exact ⟨0, by omega, rfl, rfl⟩
  case round =>
    obtain ⟨k, hk, rfl, rfl⟩ := hrel
    by_cases hlt : k < 8
    · obtain ⟨g1, g2⟩ := keyTo_bd8 s.data.toList k hlt
      have HB := kb_bd s.data.toList k
      by_cases hin : k < s.size
      · have HI : Hid (kb s.data.toList k = (s[k].toNat : Int)) := kb_in s k hin
        have hb : (s[k].toNat : Int) ≤ 255 := by have := s[k].toNat_lt; omega
        go_wp2_with fail
        go_round
        case rel => exact ⟨k + 1, by omega, by go_num, by rw [or_byte _ _ g1 g2 (by omega) hb]; simp only [keyTo]; rw [HI.out]⟩
        case measure => simp [intOf]; omega
      · have HI : Hid (kb s.data.toList k = 0) := kb_out s k hin
        go_wp2_with fail
        go_round
        case rel => exact ⟨k + 1, by omega, by go_num, by simp only [keyTo]; rw [HI.out]; simp⟩
        case measure => simp [intOf]; omega
    · have : k = 8 := by omega
      subst this
      go_wp2_with fail
      go_ret
      exact ⟨ret_u64 H8.out, rfl⟩

theorem newIndex_any (w : World) :
    Calls Try.prog 12 #[] w fun e w' => e = .returned (.pointer (some ⟨w.heap.size, 0, none⟩)) ∧ w' = w.alloc (.cells #[.slice none 0 0] 106) := by
  go_enter Try.func12, Try.ntmps12
  go_wp2
  go_ret
  exact ⟨rfl, rfl⟩

end Go.Proofs.Qxb6616291a
