import Derived.Test.Qxb6616301aMem
/-! slices.BinarySearch over ints in order, and the line of an offset. -/
namespace Go.Proofs.Qxb6616301a
open Go.RowKit

/-- The slice a reads the numbers Z, for as many as len. -/
def ReadsI (w : World) (a : Option Addr) (len : Nat) (Z : Nat → Int) : Prop :=
  ∀ j, j < len → ∃ b o, a = some ⟨b, o, none⟩ ∧ w.cell? ⟨b, o + j, none⟩ = some (.int .i64 (Z j))
theorem ReadsI.kept {w w' : World} {a : Option Addr} {len : Nat} {Z : Nat → Int} (h : ReadsI w a len Z) (hb : But [] w w') : ReadsI w' a len Z := by
  intro j hj
  obtain ⟨b, o, e, hc⟩ := h j hj
  exact ⟨b, o, e, hb.cell hc (by simp)⟩

/-- The numbers rise. -/
def Rises (Z : Nat → Int) (len : Nat) : Prop := ∀ i j, i < j → j < len → Z i < Z j
/-- i numbers lie before t. -/
structure Lower (Z : Nat → Int) (len : Nat) (t : Int) (i : Nat) : Prop where
  le : i ≤ len
  low : ∀ j, j < i → Z j < t
  high : ∀ j, i ≤ j → j < len → t ≤ Z j
/-- What BinarySearch answers. -/
def Found (Z : Nat → Int) (len : Nat) (t : Int) (e : Ending) : Prop := ∃ (i : Nat) (f : Bool), e = .returned (.tuple #[.int .i64 i, .bool f]) ∧ Lower Z len t i

theorem nan15 (x : Int) (w : World) : Calls Try.prog 15 #[.int .i64 x] w fun e w' => e = .returned (.bool false) ∧ w = w' := by
  go_enter Try.func15, Try.ntmps15
  go_wp2
  go_ret
  exact ⟨by simp, rfl⟩
theorem nan14 (x : Int) (w : World) : Calls Try.prog 14 #[.int .i64 x] w fun e w' => e = .returned (.bool false) ∧ w = w' := by
  go_enter Try.func14, Try.ntmps14
  go_wp2
  go_ret
  exact ⟨by simp, rfl⟩
theorem less_any (x y : Int) (w : World) : Calls Try.prog 13 #[.int .i64 x, .int .i64 y] w fun e w' => e = .returned (.bool (decide (x < y))) ∧ w = w' := by
  go_enter Try.func13, Try.ntmps13
  go_wp2_with fail
  refine (nan15 x w).mono ?_
  rintro e w' ⟨rfl, rfl⟩
  go_wp2_with fail
  go_ret
  exact ⟨by simp, rfl⟩

set_option maxHeartbeats 1000000 in
theorem search_any (a : Option Addr) (len cap : Nat) (Z : Nat → Int) (t : Int) (w : World) (hR : ReadsI w a len Z) (hZ : Rises Z len) (hl : len ≤ 131072) :
    Calls Try.prog 12 #[.slice a len cap, .int .i64 t] w fun e w' => Found Z len t e ∧ w = w' := by
  have HR : Hid (ReadsI w a len Z) := hR
  have HZ : Hid (Rises Z len) := hZ
  clear hR hZ
  go_enter Try.func12, Try.ntmps12
  go_wp2_with fail
  go_loop [7, 8] (fun i j => ∃ (x y : Nat), x ≤ y ∧ y ≤ len ∧ i = .int .i64 x ∧ j = .int .i64 y ∧ Hid ((∀ k, k < x → Z k < t) ∧ ∀ k, y ≤ k → k < len → t ≤ Z k)) (fun i j => (intOf j).toNat - (intOf i).toNat)
  case atStart => exact ⟨0, len, by omega, by omega, rfl, rfl, fun k hk => by omega, fun k h1 h2 => by omega⟩
  case round =>
    obtain ⟨x, y, hxy, hyl, rfl, rfl, HI⟩ := hrel
    by_cases hlt : x < y
    · obtain ⟨b, o, rfl, hc⟩ := HR.out ((x + y) / 2) (by omega)
      go_wp2_with fail
      refine (less_any _ _ w).mono ?_
      rintro e w' ⟨rfl, rfl⟩
      by_cases hm : Z ((x + y) / 2) < t
      · have HI' : Hid ((∀ k, k < (x + y) / 2 + 1 → Z k < t) ∧ ∀ k, y ≤ k → k < len → t ≤ Z k) := ⟨fun k hk => by
          by_cases hk' : k = (x + y) / 2
          · subst hk'; exact hm
          · have := HZ.out k ((x + y) / 2) (by omega) (by omega); omega, HI.out.2⟩
        go_wp2_with fail
        go_round
        case rel => exact ⟨(x + y) / 2 + 1, y, by omega, by omega, by go_num, rfl, HI'⟩
        case measure => simp [intOf]; omega
      · have HI' : Hid ((∀ k, k < x → Z k < t) ∧ ∀ k, (x + y) / 2 ≤ k → k < len → t ≤ Z k) := ⟨HI.out.1, fun k h1 h2 => by
          by_cases hk' : k = (x + y) / 2
          · subst hk'; omega
          · have := HZ.out ((x + y) / 2) k (by omega) h2; omega⟩
        go_wp2_with fail
        go_round
        case rel => exact ⟨x, (x + y) / 2, by omega, by omega, rfl, by go_num, HI'⟩
        case measure => simp [intOf]; omega
    · have hxe : y = x := by omega
      subst hxe
      have HL : Hid (Lower Z len t y) := ⟨hyl, HI.out.1, HI.out.2⟩
      clear HI
      by_cases hin : y < len
      · obtain ⟨b, o, rfl, hc⟩ := HR.out y hin
        by_cases hq : Z y = t
        · go_wp2_with fail
          go_ret2
          exact ⟨⟨y, _, rfl, HL.out⟩, rfl⟩
        · go_wp2_with fail
          refine (nan14 _ w).mono ?_
          rintro e w' ⟨rfl, rfl⟩
          go_wp2_with fail
          go_ret2
          exact ⟨⟨y, _, rfl, HL.out⟩, rfl⟩
      · go_wp2_with fail
        go_ret2
        exact ⟨⟨y, _, rfl, HL.out⟩, rfl⟩

/-- What lineAt answers. -/
def Line (Z : Nat → Int) (len : Nat) (t : Int) (e : Ending) : Prop := ∃ i : Nat, e = .returned (.int .i64 ((i : Int) + 1)) ∧ Lower Z len t i

theorem lineAt11 (fb : Nat) (a : Option Addr) (len cap : Nat) (Z : Nat → Int) (t : Int) (w : World) (hc : w.cell? ⟨fb, 1, none⟩ = some (.slice a len cap)) (ht0 : 0 ≤ t) (ht1 : t < 4294967296) (hR : ReadsI w a len Z) (hZ : Rises Z len) (hl : len ≤ 131072) :
    Calls Try.prog 11 #[.pointer (some ⟨fb, 0, none⟩), .int .u32 t] w fun e w' => Line Z len t e ∧ w = w' := by
  have H : Hid (Calls Try.prog 12 #[.slice a len cap, .int .i64 t] w fun e w' => Found Z len t e ∧ w = w') := search_any a len cap Z t w hR hZ hl
  clear hR hZ
  go_enter Try.func11, Try.ntmps11
  go_wp2_with fail
  refine (Calls.mono H.out) ?_
  rintro e w' ⟨⟨i, f, rfl, hL⟩, rfl⟩
  have hi := hL.le
  go_wp2_with fail
  go_ret
  exact ⟨⟨i, rfl, hL⟩, rfl⟩
theorem lineAt_any (fb : Nat) (a : Option Addr) (len cap : Nat) (Z : Nat → Int) (t : Int) (w : World) (hc : w.cell? ⟨fb, 1, none⟩ = some (.slice a len cap)) (ht0 : 0 ≤ t) (ht1 : t < 4294967296) (hR : ReadsI w a len Z) (hZ : Rises Z len) (hl : len ≤ 131072) :
    Calls Try.prog 8 #[.pointer (some ⟨fb, 0, none⟩), .int .u32 t] w fun e w' => Line Z len t e ∧ w = w' := by
  have H : Hid (Calls Try.prog 11 #[.pointer (some ⟨fb, 0, none⟩), .int .u32 t] w fun e w' => Line Z len t e ∧ w = w') := lineAt11 fb a len cap Z t w hc ht0 ht1 hR hZ hl
  clear hR hZ
  go_enter Try.func8, Try.ntmps8
  go_wp2_with fail
  refine (Calls.mono H.out) ?_
  rintro e w' ⟨⟨i, rfl, hL⟩, rfl⟩
  go_wp2_with fail
  go_ret
  exact ⟨⟨i, rfl, hL⟩, rfl⟩
theorem newFile_any (s : ByteArray) (a : Option Addr) (len cap : Nat) (w : World) :
    Calls Try.prog 9 #[.string s, .slice a len cap] w fun e w' => ∃ fb, e = .returned (.pointer (some ⟨fb, 0, none⟩)) ∧ w'.cell? ⟨fb, 1, none⟩ = some (.slice a len cap) ∧ But [] w w' := by
  go_enter Try.func9, Try.ntmps9
  go_wp2
  go_ret
  refine ⟨_, rfl, ?_, (But.refl _ _).alloc _⟩
  rw [cell_of_row _ _ _ _ _ (0, 0) (heap_alloc_new w _)]
  rfl

/-- What b1SortedEnds answers. -/
def SortedOut (Z : Nat → Int) (len : Nat) (e : Ending) : Prop := ∃ f : Bool, e = .returned (.bool f) ∧ (f = true → ∀ i, i + 1 < len → Z i < Z (i + 1))
set_option maxHeartbeats 1000000 in
theorem sorted_any (a : Option Addr) (len cap : Nat) (Z : Nat → Int) (w : World) (hR : ReadsI w a len Z) (hl : len ≤ 131072) :
    Calls Try.prog 6 #[.slice a len cap] w fun e w' => SortedOut Z len e ∧ But [] w w' := by
  have HR : Hid (ReadsI w a len Z) := hR
  clear hR
  go_enter Try.func6, Try.ntmps6
  go_wp2_with fail
  go_loopw [3] (fun i wx => ∃ k : Nat, k ≤ len ∧ i = .int .i64 k ∧ Hid (∀ i, i + 1 < k → Z i < Z (i + 1)) ∧ But [] w wx) (fun i _ => len - (intOf i).toNat)
  case atStart => exact ⟨0, by omega, rfl, fun i hi => by omega, But.refl _ _⟩
  case round =>
    obtain ⟨k, hk, rfl, HI, hb⟩ := hrel
    by_cases hlt : k < len
    · obtain ⟨b, o, rfl, hc⟩ := (HR.out.kept hb) k hlt
      by_cases h0 : Z k < 0
      · go_wp2_with fail
        go_ret
        exact ⟨⟨false, rfl, fun h => by simp at h⟩, hb⟩
      · by_cases hk0 : k = 0
        · subst hk0
          rw [Nat.add_zero] at hc
          go_wp2_with fail
          go_quiet (fail)
          go_wp2_with fail
          go_roundw
          case rel => exact ⟨1, by omega, by go_num, fun i hi => by omega, hb.drewN _⟩
          case measure => simp [intOf]; omega
        · obtain ⟨m, rfl⟩ : ∃ m, k = m + 1 := ⟨k - 1, by omega⟩
          clear hk0
          obtain ⟨b', o', e', hc'⟩ := (HR.out.kept hb) m (by omega)
          simp only [Option.some.injEq, Addr.mk.injEq, and_true] at e'
          obtain ⟨rfl, rfl⟩ := e'
          by_cases hz : Z m < Z (m + 1)
          · have HI' : Hid (∀ i, i + 1 < m + 1 + 1 → Z i < Z (i + 1)) := fun i hi => by
              by_cases e : i = m
              · subst e; exact hz
              · exact HI.out i (by omega)
            go_wp2_with fail
            go_quiet (fail)
            go_wp2_with fail
            go_roundw
            case rel => exact ⟨m + 1 + 1, by omega, by go_num, HI', hb.drewN _⟩
            case measure => simp [intOf]; omega
          · go_wp2_with fail
            go_quiet (fail)
            go_wp2_with fail
            go_ret
            exact ⟨⟨false, rfl, fun h => by simp at h⟩, hb.drewN _⟩
    · have hke : len = k := by omega
      subst hke
      go_wp2_with fail
      go_ret
      exact ⟨⟨true, rfl, fun _ => HI.out⟩, hb⟩
theorem rises_of (Z : Nat → Int) (len : Nat) (h : ∀ i, i + 1 < len → Z i < Z (i + 1)) : Rises Z len := by
  intro i j hij
  induction j with
  | zero => omega
  | succ j ih =>
    intro hj
    by_cases e : i = j
    · subst e; exact h i hj
    · have := ih (by omega) (by omega)
      have := h j hj
      omega

end Go.Proofs.Qxb6616301a
