import Derived.Test.Qxb6616288aWrapClone
import Derived.WalkKit
import Derived.ProofKit
import Derived.OpenShut
import Derived.Below
import Derived.WalkSmall
import Derived.BigQuiet
import Derived.Deep.QuietTactic
namespace Go.Proofs.Qxb6616288a.Wrapc
open Go.RowKit

/-- WHAT THE WALK IS TOLD OF A SLICE OF INTEGERS THAT CAME IN: it is nil; or it leads to a row of 'cap' cells, the numbers 'zs' (the first 'len' are its elements, the rest its spare room), each fitting its kind. -/
def IsRow (k : IntKind) (w : World) (a : Option Addr) (len cap : Nat) (zs : List Int) : Prop :=
  (a = none ∧ len = 0 ∧ cap = 0 ∧ zs = []) ∨
  ∃ x, a = some x ∧ len ≤ cap ∧ cap ≤ maxLen ∧ zs.length = cap ∧ (∀ i, i < zs.length → w.cell? (x.add i) = some (.int k (zs.getD i 0))) ∧ ∀ n ∈ zs, (Lit.int k n).wf = true

/-! ### STEP 1: THE WALK: the Go text returns true, AND WRITES NOTHING THAT WAS THERE: 'Below w.heap.size w w'' (Derived/Below.lean: '.refl', '.alloc', '.drew', '.setCell' at a new block, '.trans'). Open each 'IsRow' by 'rcases' AHEAD of 'go_enter'; part every test ahead of the walk. -/
theorem bcell {W w1 : World} (hb : Below W.heap.size W w1) : (∀ b o, b < W.heap.size → w1.cell? ⟨b, o, none⟩ = W.cell? ⟨b, o, none⟩) ∧ (∀ b o, b < W.heap.size → w1.frozen? ⟨b, o, none⟩ = W.frozen? ⟨b, o, none⟩) :=
  ⟨fun b o h => hb.cell (p := ⟨b, o, none⟩) h, fun b o h => hb.frozen (p := ⟨b, o, none⟩) h⟩

theorem bytes_any (a0 : Option Addr) (len0 cap0 : Nat) (a1 a2 a3 : Int) (a4 : Bool) (w : World) (hm : len0 ≤ maxLen) :
    Calls Try.prog 24 #[.slice a0 len0 cap0, .int .i64 a1, .int .i64 a2, .int .i64 a3, .bool a4] w fun e w' => e = .returned (.bool (decide (len0 ≤ 1048576))) ∧ w = w' := by
  unfold maxLen at hm
  by_cases h : len0 ≤ 1048576
  · have h' : ¬ ((1048576 : Int) < (len0 : Int)) := by omega
    go_enter Try.func24, Try.ntmps24
    go_wp2
    go_ret
    exact ⟨by simp, rfl⟩
  · have h' : (1048576 : Int) < (len0 : Int) := by omega
    go_enter Try.func24, Try.ntmps24
    go_wp2
    go_ret
    exact ⟨by simp; omega, rfl⟩

theorem clone_any (a0 : Option Addr) (len0 cap0 : Nat) (z0 : List Int) (w : World) (w0 : IsRow .u8 w a0 len0 cap0 z0) (hb : len0 ≤ 1048576) :
    Calls Try.prog 13 #[.slice a0 len0 cap0] w fun e w' => (∃ a l c, e = .returned (.slice a l c)) ∧ Below w.heap.size w w' := by
  rcases w0 with ⟨rfl, rfl, rfl, rfl⟩ | ⟨x, rfl, hl, hm, hz, hcell, hwz⟩
  · exact (clone_nil w).mono fun e w' ⟨he, hw⟩ => by subst hw; exact ⟨⟨_, _, _, he⟩, Below.refl _ _⟩
  · exact clone_some x len0 cap0 z0 w hl hz hb hcell

theorem ring_any (b : Nat) (h t n : Int) (p : Bool) (w : World) (e1 : w.cell? ⟨b, 3, none⟩ = some (.int .i64 h)) (e2 : w.cell? ⟨b, 4, none⟩ = some (.int .i64 t)) (e3 : w.cell? ⟨b, 5, none⟩ = some (.int .i64 n)) (e4 : w.cell? ⟨b, 6, none⟩ = some (.bool p)) :
    Calls Try.prog 27 #[.pointer (some ⟨b, 0, none⟩)] w fun e w' => e = .returned (.tuple #[.int .i64 h, .int .i64 t, .int .i64 n, .bool p]) ∧ ∃ n, w' = w.drewN n := by
  go_enter Try.func27, Try.ntmps27
  go_wp2
  go_quiet (fail)
  go_wp2
  exact bodyPost_ret (v := .tuple #[.int .i64 h, .int .i64 t, .int .i64 n, .bool p]) (by simp [results, Try.results27, go_sem]) rfl ⟨rfl, _, rfl⟩

theorem wrap_new (a : Option Addr) (l c : Nat) (h t n : Int) (p : Bool) (w : World) :
    Calls Try.prog 31 #[.pointer (some ⟨w.heap.size, 0, none⟩)] (w.alloc (.cells #[.int .i32 0, .int .u32 0, .slice a l c, .int .i64 h, .int .i64 t, .int .i64 n, .bool p, .slice none 0 0, .int .i64 0, .int .i64 0, .nilFunc, .int .u64 0, .int .u64 0, .int .u64 0, .int .u64 0, .int .u64 0, .int .i64 0] 63)) fun e w' => e = .returned (.tuple #[]) ∧
      w' = w.alloc (.cells #[.int .i32 0, .int .u32 0, .slice a l c, .int .i64 0, .int .i64 t, .int .i64 h, .bool true, .slice none 0 0, .int .i64 0, .int .i64 0, .nilFunc, .int .u64 0, .int .u64 0, .int .u64 0, .int .u64 0, .int .u64 0, .int .i64 0] 63) := by
  go_enter Try.func31, Try.ntmps31
  go_wp2
  go_end0
  exact ⟨rfl, rfl⟩

theorem shardWrap_new (a : Option Addr) (l c : Nat) (h t n : Int) (p : Bool) (w : World) :
    Calls Try.prog 26 #[.pointer (some ⟨w.heap.size, 0, none⟩)] (w.alloc (.cells #[.int .i32 0, .int .u32 0, .slice a l c, .int .i64 h, .int .i64 t, .int .i64 n, .bool p, .slice none 0 0, .int .i64 0, .int .i64 0, .nilFunc, .int .u64 0, .int .u64 0, .int .u64 0, .int .u64 0, .int .u64 0, .int .i64 0] 63)) fun e w' => e = .returned (.tuple #[]) ∧
      w' = w.alloc (.cells #[.int .i32 0, .int .u32 0, .slice a l c, .int .i64 0, .int .i64 t, .int .i64 h, .bool true, .slice none 0 0, .int .i64 0, .int .i64 0, .nilFunc, .int .u64 0, .int .u64 0, .int .u64 0, .int .u64 0, .int .u64 0, .int .i64 0] 63) := by
  go_enter Try.func26, Try.ntmps26
  go_wp2_with (go_at_call 31; refine (wrap_new _ _ _ _ _ _ _ _).mono ?_; rintro e w' ⟨rfl, rfl⟩)
  go_end0
  exact ⟨rfl, rfl⟩

theorem newRing_any (a : Option Addr) (l c : Nat) (h t n : Int) (p : Bool) (w : World) :
    Calls Try.prog 25 #[.slice a l c, .int .i64 h, .int .i64 t, .int .i64 n, .bool p] w fun e w' => e = .returned (.pointer (some ⟨w.heap.size, 0, none⟩)) ∧
      w' = w.alloc (.cells #[.int .i32 0, .int .u32 0, .slice a l c, .int .i64 h, .int .i64 t, .int .i64 n, .bool p, .slice none 0 0, .int .i64 0, .int .i64 0, .nilFunc, .int .u64 0, .int .u64 0, .int .u64 0, .int .u64 0, .int .u64 0, .int .i64 0] 63) := by
  go_enter Try.func25, Try.ntmps25
  go_wp2
  go_ret
  exact ⟨rfl, rfl⟩

set_option maxHeartbeats 1000000 in
theorem walk_main (a0 : Option Addr) (len0 cap0 : Nat) (z0 : List Int) (a1 a2 a3 : Int) (w : World) (w0 : IsRow .u8 w a0 len0 cap0 z0) (hm : len0 ≤ maxLen)
    (h : len0 ≤ 1048576) (c1 : ¬ a2 < 0) (c2 : ¬ a1 ≤ a2) (c3 : ¬ (len0 : Int) < a1) (c4 : ¬ a3 < 0) (c5 : ¬ (len0 : Int) < a3) :
    Calls Try.prog 6 #[.slice a0 len0 cap0, .int .i64 a1, .int .i64 a2, .int .i64 a3, .bool false] w fun e w' => e = .returned (.bool true) ∧ Below w.heap.size w w' := by
  have hd : decide (len0 ≤ 1048576) = true := by simpa using h
  have h' : ¬ ((1048576 : Int) < (len0 : Int)) := by omega
  go_enter Try.func6, Try.ntmps6
  go_wp2_with (go_at_call 24; refine (bytes_any _ _ _ _ _ _ _ _ hm).mono ?_; rintro e w' ⟨rfl, rfl⟩)
  refine (clone_any _ _ _ _ _ w0 h).mono ?_
  rintro e w1 ⟨⟨a, l, c, rfl⟩, hb⟩
  go_wp2_with fail
  refine (newRing_any _ _ _ _ _ _ _ _).mono ?_
  rintro e w2 ⟨rfl, rfl⟩
  go_wp2_with fail
  refine (shardWrap_new _ _ _ _ _ _ _ _).mono ?_
  rintro e w2 ⟨rfl, rfl⟩
  go_wp2_with fail
  refine (ring_any _ 0 a2 a1 true _ (by go_simp) (by go_simp) (by go_simp) (by go_simp)).mono ?_
  rintro e w2 ⟨rfl, nq, rfl⟩
  go_wp2
  have hfin : Below w.heap.size w ((w1.alloc (.cells #[.int .i32 0, .int .u32 0, .slice a l c, .int .i64 0, .int .i64 a2, .int .i64 a1, .bool true, .slice none 0 0, .int .i64 0, .int .i64 0, .nilFunc, .int .u64 0, .int .u64 0, .int .u64 0, .int .u64 0, .int .u64 0, .int .i64 0] 63)).drewN nq) :=
    below_drewN (hb.alloc hb.size _) nq
  generalize ((w1.alloc (.cells #[.int .i32 0, .int .u32 0, .slice a l c, .int .i64 0, .int .i64 a2, .int .i64 a1, .bool true, .slice none 0 0, .int .i64 0, .int .i64 0, .nilFunc, .int .u64 0, .int .u64 0, .int .u64 0, .int .u64 0, .int .u64 0, .int .i64 0] 63)).drewN nq) = wf at hfin ⊢
  go_loop [16] (fun i => ∃ k : Nat, k ≤ len0 ∧ i = .int .i64 k) (fun i => len0 - (intOf i).toNat)
  case atStart => exact ⟨0, Nat.zero_le _, rfl⟩
  case round =>
    obtain ⟨k, hk, rfl⟩ := hrel
    by_cases hlt : k < len0
    · by_cases p1 : a2 ≤ (k : Int)
      · by_cases p2 : (k : Int) < a1
        · go_wp2
          go_round
          case rel => exact ⟨k + 1, by omega, by go_num⟩
          case measure => simp [intOf]; omega
        · go_wp2
          go_round
          case rel => exact ⟨k + 1, by omega, by go_num⟩
          case measure => simp [intOf]; omega
      · go_wp2
        go_round
        case rel => exact ⟨k + 1, by omega, by go_num⟩
        case measure => simp [intOf]; omega
    · go_wp2
      go_ret
      exact ⟨rfl, hfin⟩

set_option maxHeartbeats 1000000 in
theorem walk (a0 : Option Addr) (len0 cap0 : Nat) (z0 : List Int) (a1 : Int) (a2 : Int) (a3 : Int) (a4 : Bool) (w : World) (w0 : IsRow .u8 w a0 len0 cap0 z0) (_w1 : (Lit.int .i64 a1).wf = true) (_w2 : (Lit.int .i64 a2).wf = true) (_w3 : (Lit.int .i64 a3).wf = true) :
    Calls Try.prog 6 #[.slice a0 len0 cap0, .int .i64 a1, .int .i64 a2, .int .i64 a3, .bool a4] w fun e w' => e = .returned (.bool true) ∧ Below w.heap.size w w' := by
  have hm : len0 ≤ maxLen := by
    rcases w0 with ⟨rfl, rfl, rfl, rfl⟩ | ⟨x, rfl, hl, hm, hz, hcell, hwz⟩
    · simp
    · omega
  have hm' := hm
  unfold maxLen at hm'
  by_cases h : len0 ≤ 1048576
  · have hd : decide (len0 ≤ 1048576) = true := by simpa using h
    have h' : ¬ ((1048576 : Int) < (len0 : Int)) := by omega
    cases a4 with
    | true => 
      go_enter Try.func6, Try.ntmps6
      go_wp2_with (go_at_call 24; refine (bytes_any _ _ _ _ _ _ _ _ hm).mono ?_; rintro e w' ⟨rfl, rfl⟩)
      go_ret
      exact ⟨rfl, Below.refl _ _⟩
    | false =>
      by_cases c1 : a2 < 0
      · go_enter Try.func6, Try.ntmps6
        go_wp2_with (go_at_call 24; refine (bytes_any _ _ _ _ _ _ _ _ hm).mono ?_; rintro e w' ⟨rfl, rfl⟩)
        go_ret
        exact ⟨rfl, Below.refl _ _⟩
      by_cases c2 : a1 ≤ a2
      · go_enter Try.func6, Try.ntmps6
        go_wp2_with (go_at_call 24; refine (bytes_any _ _ _ _ _ _ _ _ hm).mono ?_; rintro e w' ⟨rfl, rfl⟩)
        go_ret
        exact ⟨rfl, Below.refl _ _⟩
      by_cases c3 : (len0 : Int) < a1
      · go_enter Try.func6, Try.ntmps6
        go_wp2_with (go_at_call 24; refine (bytes_any _ _ _ _ _ _ _ _ hm).mono ?_; rintro e w' ⟨rfl, rfl⟩)
        go_ret
        exact ⟨rfl, Below.refl _ _⟩
      by_cases c4 : a3 < 0
      · go_enter Try.func6, Try.ntmps6
        go_wp2_with (go_at_call 24; refine (bytes_any _ _ _ _ _ _ _ _ hm).mono ?_; rintro e w' ⟨rfl, rfl⟩)
        go_ret
        exact ⟨rfl, Below.refl _ _⟩
      by_cases c5 : (len0 : Int) < a3
      · go_enter Try.func6, Try.ntmps6
        go_wp2_with (go_at_call 24; refine (bytes_any _ _ _ _ _ _ _ _ hm).mono ?_; rintro e w' ⟨rfl, rfl⟩)
        go_ret
        exact ⟨rfl, Below.refl _ _⟩
      exact walk_main a0 len0 cap0 z0 a1 a2 a3 w w0 hm h c1 c2 c3 c4 c5
  · have hd : decide (len0 ≤ 1048576) = false := by simpa using h
    go_enter Try.func6, Try.ntmps6
    go_wp2_with (go_at_call 24; refine (bytes_any _ _ _ _ _ _ _ _ hm).mono ?_; rintro e w' ⟨rfl, rfl⟩)
    go_ret
    exact ⟨rfl, Below.refl _ _⟩

end Go.Proofs.Qxb6616288a.Wrapc
