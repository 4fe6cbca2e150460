import Derived.Test.Qxb6616291aLeaf
namespace Go.Proofs.Qxb6616291a
open Go.RowKit

set_option maxHeartbeats 2000000 in
theorem zzBytes19 (a1 a2 : Option Addr) (l1 c1 l2 c2 : Nat) (S1 S2 : Nat → ByteArray) (w : World) (h1 : ReadsS w a1 l1 S1) (h2 : ReadsS w a2 l2 S2) (b1 : l1 ≤ 9223372036854775807) (b2 : l2 ≤ 9223372036854775807) (s1 : ∀ j, j < l1 → (S1 j).size ≤ 9223372036854775807) (s2 : ∀ j, j < l2 → (S2 j).size ≤ 9223372036854775807) :
    Calls Try.prog 19 #[.slice a1 l1 c1, .slice a2 l2 c2] w fun e w' => SomeBool e ∧ w = w' := by
  have H1 : Hid (ReadsS w a1 l1 S1) := h1
  have H2 : Hid (ReadsS w a2 l2 S2) := h2
  have G1 : Hid (∀ j, j < l1 → (S1 j).size ≤ 9223372036854775807) := s1
  have G2 : Hid (∀ j, j < l2 → (S2 j).size ≤ 9223372036854775807) := s2
  clear h1 h2 s1 s2
  by_cases k1 : (1048576 : Int) < (l1 : Int)
  · go_enter Try.func19, Try.ntmps19
    go_wp2_with fail
    go_ret
    exact ⟨⟨_, rfl⟩, rfl⟩
  · go_enter Try.func19, Try.ntmps19
    go_wp2_with fail
    go_loop [5, 6] (fun m i => ∃ (k : Nat) (r : Int), k ≤ l1 ∧ i = .int .i64 k ∧ m = .int .i64 r ∧ 0 ≤ r ∧ r ≤ 1048576) (fun _ i => l1 - (intOf i).toNat)
    case atStart => exact ⟨0, l1, by omega, rfl, rfl, by omega, by omega⟩
    case round =>
      obtain ⟨k, r, hk, rfl, rfl, g1, g2⟩ := hrel
      by_cases hlt : k < l1
      · obtain ⟨b, o, rfl, c⟩ := H1.out k hlt
        have hsz := G1.out k hlt
        by_cases t1 : (1048576 : Int) < ((S1 k).size : Int)
        · go_wp2_with fail
          go_ret
          exact ⟨⟨_, rfl⟩, rfl⟩
        · by_cases t2 : (1048576 : Int) < r + ((S1 k).size : Int)
          · go_wp2_with fail
            go_ret
            exact ⟨⟨_, rfl⟩, rfl⟩
          · go_wp2_with fail
            go_round
            case rel => exact ⟨k + 1, r + ((S1 k).size : Int), by omega, by go_num, rfl, by omega, by omega⟩
            case measure => simp [intOf]; omega
      · by_cases k2 : (1048576 : Int) < (l2 : Int)
        · go_wp2_with fail
          go_ret
          exact ⟨⟨_, rfl⟩, rfl⟩
        · by_cases k3 : (1048576 : Int) < r + (l2 : Int)
          · go_wp2_with fail
            go_ret
            exact ⟨⟨_, rfl⟩, rfl⟩
          · go_wp2_with fail
            go_loop [5, 7] (fun m i => ∃ (k : Nat) (r : Int), k ≤ l2 ∧ i = .int .i64 k ∧ m = .int .i64 r ∧ 0 ≤ r ∧ r ≤ 1048576) (fun _ i => l2 - (intOf i).toNat)
            case atStart => exact ⟨0, r + l2, by omega, rfl, rfl, by omega, by omega⟩
            case round =>
              obtain ⟨k, r, hk, rfl, rfl, g1, g2⟩ := hrel
              by_cases hlt : k < l2
              · obtain ⟨b, o, rfl, c⟩ := H2.out k hlt
                have hsz := G2.out k hlt
                by_cases t1 : (1048576 : Int) < ((S2 k).size : Int)
                · go_wp2_with fail
                  go_ret
                  exact ⟨⟨_, rfl⟩, rfl⟩
                · by_cases t2 : (1048576 : Int) < r + ((S2 k).size : Int)
                  · go_wp2_with fail
                    go_ret
                    exact ⟨⟨_, rfl⟩, rfl⟩
                  · go_wp2_with fail
                    go_round
                    case rel => exact ⟨k + 1, r + ((S2 k).size : Int), by omega, by go_num, rfl, by omega, by omega⟩
                    case measure => simp [intOf]; omega
              · go_wp2_with fail
                go_ret
                exact ⟨⟨_, rfl⟩, rfl⟩

set_option maxHeartbeats 2000000 in
theorem zzBytes7 (a1 a2 : Option Addr) (l1 c1 l2 c2 : Nat) (S1 S2 : Nat → ByteArray) (w : World) (h1 : ReadsS w a1 l1 S1) (h2 : ReadsS w a2 l2 S2) (b1 : l1 ≤ 9223372036854775807) (b2 : l2 ≤ 9223372036854775807) (s1 : ∀ j, j < l1 → (S1 j).size ≤ 9223372036854775807) (s2 : ∀ j, j < l2 → (S2 j).size ≤ 9223372036854775807) :
    Calls Try.prog 7 #[.slice a1 l1 c1, .slice a2 l2 c2] w fun e w' => SomeBool e ∧ w = w' := by
  have H1 : Hid (ReadsS w a1 l1 S1) := h1
  have H2 : Hid (ReadsS w a2 l2 S2) := h2
  have G1 : Hid (∀ j, j < l1 → (S1 j).size ≤ 9223372036854775807) := s1
  have G2 : Hid (∀ j, j < l2 → (S2 j).size ≤ 9223372036854775807) := s2
  clear h1 h2 s1 s2
  by_cases k1 : (1048576 : Int) < (l1 : Int)
  · go_enter Try.func7, Try.ntmps7
    go_wp2_with fail
    go_ret
    exact ⟨⟨_, rfl⟩, rfl⟩
  · go_enter Try.func7, Try.ntmps7
    go_wp2_with fail
    go_loop [5, 6] (fun m i => ∃ (k : Nat) (r : Int), k ≤ l1 ∧ i = .int .i64 k ∧ m = .int .i64 r ∧ 0 ≤ r ∧ r ≤ 1048576) (fun _ i => l1 - (intOf i).toNat)
    case atStart => exact ⟨0, l1, by omega, rfl, rfl, by omega, by omega⟩
    case round =>
      obtain ⟨k, r, hk, rfl, rfl, g1, g2⟩ := hrel
      by_cases hlt : k < l1
      · obtain ⟨b, o, rfl, c⟩ := H1.out k hlt
        have hsz := G1.out k hlt
        by_cases t1 : (1048576 : Int) < ((S1 k).size : Int)
        · go_wp2_with fail
          go_ret
          exact ⟨⟨_, rfl⟩, rfl⟩
        · by_cases t2 : (1048576 : Int) < r + ((S1 k).size : Int)
          · go_wp2_with fail
            go_ret
            exact ⟨⟨_, rfl⟩, rfl⟩
          · go_wp2_with fail
            go_round
            case rel => exact ⟨k + 1, r + ((S1 k).size : Int), by omega, by go_num, rfl, by omega, by omega⟩
            case measure => simp [intOf]; omega
      · by_cases k2 : (1048576 : Int) < (l2 : Int)
        · go_wp2_with fail
          go_ret
          exact ⟨⟨_, rfl⟩, rfl⟩
        · by_cases k3 : (1048576 : Int) < r + (l2 : Int)
          · go_wp2_with fail
            go_ret
            exact ⟨⟨_, rfl⟩, rfl⟩
          · go_wp2_with fail
            go_loop [5, 7] (fun m i => ∃ (k : Nat) (r : Int), k ≤ l2 ∧ i = .int .i64 k ∧ m = .int .i64 r ∧ 0 ≤ r ∧ r ≤ 1048576) (fun _ i => l2 - (intOf i).toNat)
            case atStart => exact ⟨0, r + l2, by omega, rfl, rfl, by omega, by omega⟩
            case round =>
              obtain ⟨k, r, hk, rfl, rfl, g1, g2⟩ := hrel
              by_cases hlt : k < l2
              · obtain ⟨b, o, rfl, c⟩ := H2.out k hlt
                have hsz := G2.out k hlt
                by_cases t1 : (1048576 : Int) < ((S2 k).size : Int)
                · go_wp2_with fail
                  go_ret
                  exact ⟨⟨_, rfl⟩, rfl⟩
                · by_cases t2 : (1048576 : Int) < r + ((S2 k).size : Int)
                  · go_wp2_with fail
                    go_ret
                    exact ⟨⟨_, rfl⟩, rfl⟩
                  · go_wp2_with fail
                    go_round
                    case rel => exact ⟨k + 1, r + ((S2 k).size : Int), by omega, by go_num, rfl, by omega, by omega⟩
                    case measure => simp [intOf]; omega
              · go_wp2_with fail
                go_ret
                exact ⟨⟨_, rfl⟩, rfl⟩

end Go.Proofs.Qxb6616291a
