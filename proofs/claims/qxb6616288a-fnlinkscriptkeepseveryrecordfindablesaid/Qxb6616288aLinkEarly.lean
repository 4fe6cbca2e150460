import Derived.Test.Qxb6616288aLinkWalk
namespace Go.Proofs.Qxb6616288a.Lnk
open Go.RowKit

/-- WHAT THE WALK IS TOLD OF A SLICE OF INTEGERS THAT CAME IN: it is nil; or it leads to a row of 'cap' cells, the numbers 'zs' (the first 'len' are its elements, the rest its spare room), each fitting its kind. -/
def IsRow (k : IntKind) (w : World) (a : Option Addr) (len cap : Nat) (zs : List Int) : Prop :=
  (a = none ∧ len = 0 ∧ cap = 0 ∧ zs = []) ∨
  ∃ x, a = some x ∧ len ≤ cap ∧ cap ≤ maxLen ∧ zs.length = cap ∧ (∀ i, i < zs.length → w.cell? (x.add i) = some (.int k (zs.getD i 0))) ∧ ∀ n ∈ zs, (Lit.int k n).wf = true

def SomeBool (e : Ending) : Prop := ∃ b, e = .returned (.bool b)

theorem bytes22_some (a0 : Int) (a1 : Option Addr) (len1 cap1 : Nat) (a2 : Option Addr) (len2 cap2 : Nat) (a3 a4 : Int) (w : World) (h1 : len1 ≤ 9223372036854775807) (h2 : len2 ≤ 9223372036854775807) :
    Calls Try.prog 22 #[.int .i64 a0, .slice a1 len1 cap1, .slice a2 len2 cap2, .int .u64 a3, .int .i64 a4] w fun e w' => SomeBool e ∧ w = w' := by
  by_cases c1 : (1048576 : Int) < (len1 : Int)
  · go_enter Try.func22, Try.ntmps22
    go_wp2
    go_ret
    exact ⟨⟨_, rfl⟩, rfl⟩
  by_cases c2 : (1048576 : Int) < (len2 : Int)
  · go_enter Try.func22, Try.ntmps22
    go_wp2
    go_ret
    exact ⟨⟨_, rfl⟩, rfl⟩
  by_cases c3 : (1048576 : Int) < (len1 : Int) + (len2 : Int)
  · go_enter Try.func22, Try.ntmps22
    go_wp2
    go_ret
    exact ⟨⟨_, rfl⟩, rfl⟩
  · go_enter Try.func22, Try.ntmps22
    go_wp2
    go_ret
    exact ⟨⟨_, rfl⟩, rfl⟩

set_option maxHeartbeats 1000000 in
set_option maxRecDepth 100000 in
theorem early_len (a0 : Int) (a1 : Option Addr) (len1 cap1 : Nat) (a2 : Option Addr) (len2 cap2 : Nat) (a3 a4 : Int) (w : World) (h1 : len1 ≤ 9223372036854775807) (h2 : len2 ≤ 9223372036854775807) (h : ¬ (len1 ≤ 1024 ∧ len2 ≤ 1024)) :
    Calls Try.prog 5 #[.int .i64 a0, .slice a1 len1 cap1, .slice a2 len2 cap2, .int .u64 a3, .int .i64 a4] w fun e w' => e = .returned (.bool true) ∧ Below w.heap.size w w' := by
  by_cases c : (1024 : Int) < (len1 : Int)
  · go_enter Try.func5, Try.ntmps5
    go_wp2_with fail
    refine (bytes22_some _ _ _ _ _ _ _ _ _ _ h1 h2).mono ?_
    rintro e w' ⟨⟨b, rfl⟩, rfl⟩
    cases b <;>
    · go_wp2_with fail
      go_ret
      exact ⟨rfl, Below.refl _ _⟩
  · have c2 : (1024 : Int) < (len2 : Int) := by omega
    go_enter Try.func5, Try.ntmps5
    go_wp2_with fail
    refine (bytes22_some _ _ _ _ _ _ _ _ _ _ h1 h2).mono ?_
    rintro e w' ⟨⟨b, rfl⟩, rfl⟩
    cases b <;>
    · go_wp2_with fail
      go_ret
      exact ⟨rfl, Below.refl _ _⟩

set_option maxHeartbeats 1000000 in
set_option maxRecDepth 100000 in
theorem early_n (a0 : Int) (a1 : Option Addr) (len1 cap1 : Nat) (a2 : Option Addr) (len2 cap2 : Nat) (a3 a4 : Int) (w : World) (h1 : len1 ≤ 1024) (h2 : len2 ≤ 1024) (h : ¬ (1 ≤ a0 ∧ a0 ≤ 4096 ∧ len1 = len2 ∧ (len1 : Int) < a0)) :
    Calls Try.prog 5 #[.int .i64 a0, .slice a1 len1 cap1, .slice a2 len2 cap2, .int .u64 a3, .int .i64 a4] w fun e w' => e = .returned (.bool true) ∧ Below w.heap.size w w' := by
  by_cases c1 : a0 < 1
  · go_enter Try.func5, Try.ntmps5
    go_wp2_with (go_at_call 22; refine (bytes22 _ _ _ _ _ _ _ _ _ _ h1 h2).mono ?_; rintro e w' ⟨rfl, rfl⟩)
    go_ret
    exact ⟨rfl, Below.refl _ _⟩
  by_cases c2 : 4096 < a0
  · go_enter Try.func5, Try.ntmps5
    go_wp2_with (go_at_call 22; refine (bytes22 _ _ _ _ _ _ _ _ _ _ h1 h2).mono ?_; rintro e w' ⟨rfl, rfl⟩)
    go_ret
    exact ⟨rfl, Below.refl _ _⟩
  by_cases c3 : len1 = len2
  · subst c3
    have c4 : a0 ≤ (len1 : Int) := by omega
    go_enter Try.func5, Try.ntmps5
    go_wp2_with (go_at_call 22; refine (bytes22 _ _ _ _ _ _ _ _ _ _ h1 h2).mono ?_; rintro e w' ⟨rfl, rfl⟩)
    go_ret
    exact ⟨rfl, Below.refl _ _⟩
  · have hb : ((len1 : Int) != (len2 : Int)) = true := by rw [bne_iff_ne]; omega
    go_enter Try.func5, Try.ntmps5
    go_wp2_with (go_at_call 22; refine (bytes22 _ _ _ _ _ _ _ _ _ _ h1 h2).mono ?_; rintro e w' ⟨rfl, rfl⟩)
    go_ret
    exact ⟨rfl, Below.refl _ _⟩

set_option maxHeartbeats 1000000 in
set_option maxRecDepth 100000 in
theorem early_probe (n : Nat) (a1 : Option Addr) (len cap1 : Nat) (a2 : Option Addr) (cap2 : Nat) (a3 a4 : Int) (w : World) (h1 : len ≤ 1024) (hn1 : 1 ≤ n) (hn : n ≤ 4096) (hln : len < n) (h3 : 0 ≤ a3) (h41 : -9223372036854775808 ≤ a4) (h42 : a4 ≤ 9223372036854775807)
    (h : ¬ (a3 ≤ 1073741823 ∧ 0 ≤ a4 ∧ a4 ≤ 4294967295)) :
    Calls Try.prog 5 #[.int .i64 n, .slice a1 len cap1, .slice a2 len cap2, .int .u64 a3, .int .i64 a4] w fun e w' => e = .returned (.bool true) ∧ Below w.heap.size w w' := by
  by_cases c1 : 1073741823 < a3
  · go_enter Try.func5, Try.ntmps5
    go_wp2_with (go_at_call 22; refine (bytes22 _ _ _ _ _ _ _ _ _ _ h1 h1).mono ?_; rintro e w' ⟨rfl, rfl⟩)
    go_ret
    exact ⟨rfl, Below.refl _ _⟩
  · have hok : (decide (0 ≤ a4) && decide (a4 ≤ 4294967295)) = false := by simp; omega
    go_enter Try.func5, Try.ntmps5
    go_wp2_with (first | (go_at_call 22; refine (bytes22 _ _ _ _ _ _ _ _ _ _ h1 h1).mono ?_; rintro e w' ⟨rfl, rfl⟩) | (go_at_call 8; refine (offOK_any a4 _ h41 h42).mono ?_; rintro e w' ⟨rfl, rfl⟩; rw [hok]))
    go_ret
    exact ⟨rfl, Below.refl _ _⟩

theorem row_len {k : IntKind} {w : World} {a : Option Addr} {len cap : Nat} {zs : List Int} (h : IsRow k w a len cap zs) : len ≤ 9223372036854775807 := by
  rcases h with ⟨rfl, rfl, rfl, rfl⟩ | ⟨x, rfl, hl, hm, hz, hcell, hwz⟩
  · omega
  · unfold maxLen at hm; omega
theorem row_reads {k : IntKind} {w : World} {a : Option Addr} {len cap : Nat} {zs : List Int} (h : IsRow k w a len cap zs) : Reads k w a len (fun j => zs.getD j 0) := by
  intro j hj
  rcases h with ⟨rfl, rfl, rfl, rfl⟩ | ⟨x, rfl, hl, hm, hz, hcell, hwz⟩
  · omega
  · obtain ⟨b, off, rfl, hc⟩ := ints_at hcell (by omega)
    exact ⟨b, off, rfl, hc j (by omega)⟩
theorem row_wf {k : IntKind} {w : World} {a : Option Addr} {len cap : Nat} {zs : List Int} (h : IsRow k w a len cap zs) : ∀ j, j < len → (Lit.int k (zs.getD j 0)).wf = true := by
  intro j hj
  rcases h with ⟨rfl, rfl, rfl, rfl⟩ | ⟨x, rfl, hl, hm, hz, hcell, hwz⟩
  · omega
  · have hj' : j < zs.length := by omega
    exact hwz _ (by simp [List.getD, hj'])

theorem walk (a0 : Int) (a1 : Option Addr) (len1 cap1 : Nat) (z1 : List Int) (a2 : Option Addr) (len2 cap2 : Nat) (z2 : List Int) (a3 : Int) (a4 : Int) (w : World) (_w0 : (Lit.int .i64 a0).wf = true) (w1 : IsRow .u64 w a1 len1 cap1 z1) (w2 : IsRow .i64 w a2 len2 cap2 z2) (w3 : (Lit.int .u64 a3).wf = true) (w4 : (Lit.int .i64 a4).wf = true) :
    Calls Try.prog 5 #[.int .i64 a0, .slice a1 len1 cap1, .slice a2 len2 cap2, .int .u64 a3, .int .i64 a4] w fun e w' => e = .returned (.bool true) ∧ Below w.heap.size w w' := by
  have l1 := row_len w1
  have l2 := row_len w2
  have b3 := bounds_u64 w3
  have b4 := bounds_i64 w4
  by_cases c1 : len1 ≤ 1024 ∧ len2 ≤ 1024
  · by_cases c2 : 1 ≤ a0 ∧ a0 ≤ 4096 ∧ len1 = len2 ∧ (len1 : Int) < a0
    · obtain ⟨d1, d2, rfl, d3⟩ := c2
      obtain ⟨n, rfl⟩ := Int.eq_ofNat_of_zero_le (show 0 ≤ a0 by omega)
      by_cases c3 : a3 ≤ 1073741823 ∧ 0 ≤ a4 ∧ a4 ≤ 4294967295
      · obtain ⟨e1, e2, e3⟩ := c3
        exact walk_main n len1 a1 a2 cap1 cap2 (fun j => z1.getD j 0) (fun j => z2.getD j 0) a3 a4 w (row_reads w1) (row_reads w2) (fun j hj => bounds_u64 (row_wf w1 j hj)) (fun j hj => bounds_i64 (row_wf w2 j hj)) b3.1 e1 e2 e3 (by omega) (by omega) c1.1 (by omega)
      · exact early_probe n a1 len1 cap1 a2 cap2 a3 a4 w c1.1 (by omega) (by omega) (by omega) b3.1 b4.1 b4.2 c3
    · exact early_n a0 a1 len1 cap1 a2 len2 cap2 a3 a4 w c1.1 c1.2 c2
  · exact early_len a0 a1 len1 cap1 a2 len2 cap2 a3 a4 w l1 l2 c1

end Go.Proofs.Qxb6616288a.Lnk
