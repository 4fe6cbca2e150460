import Derived.Test.Qxb6616291aTwo
/-! zzLess answers false where its second string is not behind its first; the order of an index's entries. -/
namespace Go.Proofs.Qxb6616291a
open Go.RowKit

theorem le_cons {a b : UInt8} {ys xs : List UInt8} (h : Ord.le (b :: xs) (a :: ys)) : ¬ a < b ∧ (a = b → Ord.le xs ys) := by
  unfold Ord.le Lib.compareBytes at h
  by_cases h1 : b < a
  · refine ⟨fun h2 => ?_, fun e => ?_⟩
    · have := UInt8.lt_iff_toNat_lt.1 h1; have := UInt8.lt_iff_toNat_lt.1 h2; omega
    · subst e; exact absurd (UInt8.lt_iff_toNat_lt.1 h1) (Nat.lt_irrefl _)
  · rw [if_neg h1] at h
    by_cases h2 : a < b
    · rw [if_pos h2] at h; omega
    · rw [if_neg h2] at h; exact ⟨h2, fun _ => h⟩

theorem drop_at (s : ByteArray) (k : Nat) (h : k < s.size) : s.data.toList.drop k = s[k] :: s.data.toList.drop (k + 1) := by
  rw [List.drop_eq_getElem_cons (by simpa using h)]
  rfl

set_option maxHeartbeats 1000000 in
theorem less_false (a b : ByteArray) (w : World) (h : Ord.le b.data.toList a.data.toList) (ha : a.size ≤ 9223372036854775807) (_hb : b.size ≤ 9223372036854775807) :
    Calls Try.prog 18 #[.string a, .string b] w fun e w' => e = .returned (.bool false) ∧ But [] w w' := by
  have H : Hid (Ord.le b.data.toList a.data.toList) := h
  clear h
  go_enter Try.func18, Try.ntmps18
  go_upto_if 12 with fail
  go_cut [5] (fun n wc => n = .int .i64 (min a.size b.size : Nat) ∧ wc = w)
  case first =>
    by_cases c : b.size < a.size
    · go_wp2_with fail
      go_meet
      case rel => exact ⟨by rw [Nat.min_eq_right (by omega)], rfl⟩
    · go_wp2_with fail
      go_meet
      case rel => exact ⟨by rw [Nat.min_eq_left (by omega)], rfl⟩
  case rest =>
    obtain ⟨rfl, rfl⟩ := hcut
    have hm1 : min a.size b.size ≤ a.size := Nat.min_le_left _ _
    have hm2 : min a.size b.size ≤ b.size := Nat.min_le_right _ _
    have HM : Hid (min a.size b.size = a.size ∨ min a.size b.size = b.size) := by show _ ∨ _; omega
    generalize min a.size b.size = m at *
    go_wp2_with fail
    go_loopw [6] (fun i wx => ∃ k : Nat, k ≤ m ∧ i = .int .i64 k ∧ Hid (Ord.le (b.data.toList.drop k) (a.data.toList.drop k)) ∧ But [] wc wx) (fun i _ => m - (intOf i).toNat)
    case atStart => exact ⟨0, by omega, rfl, by simpa using H, But.refl _ _⟩
    case round =>
      obtain ⟨k, hk, rfl, HL, hbx⟩ := hrel
      by_cases hlt : k < m
      · have h1 : k < a.size := by omega
        have h2 : k < b.size := by omega
        obtain ⟨q1, q2⟩ := le_cons (a := a[k]) (b := b[k]) (by have := HL.out; rwa [drop_at a k h1, drop_at b k h2] at this)
        have q3 : ¬ (a[k].toNat : Int) < (b[k].toNat : Int) := fun hh => q1 (UInt8.lt_iff_toNat_lt.2 (by omega))
        have Q2 : Hid ((a[k].toNat : Int) = (b[k].toNat : Int) → Ord.le (b.data.toList.drop (k + 1)) (a.data.toList.drop (k + 1))) := fun hh => q2 (UInt8.toNat_inj.1 (by omega))
        clear q1 q2 HL
        by_cases c : (a[k].toNat : Int) = (b[k].toNat : Int)
        · go_wp2_with fail
          go_quiet (fail)
          go_wp2_with fail
          go_roundw
          case rel => exact ⟨k + 1, by omega, by go_num, Q2.out c, hbx.drewN _⟩
          case measure => simp [intOf]; omega
        · go_wp2_with fail
          go_quiet (fail)
          go_wp2_with fail
          go_quiet (fail)
          go_wp2_with fail
          go_ret
          exact ⟨by simp; omega, (hbx.drewN _).drewN _⟩
      · have hge : ¬ (a.size : Int) < (b.size : Int) := fun hh => by
          have h0 := HL.out
          have hka : k = a.size := by have := HM.out; omega
          subst hka
          rw [show a.data.toList.drop a.size = [] from List.drop_of_length_le (by simp), drop_at b a.size (by omega)] at h0
          simp [Ord.le, Lib.compareBytes] at h0
        go_wp2_with fail
        go_ret
        exact ⟨by simp, hbx⟩

/-- The order in which a sorted index of n transactions holds them. -/
structure Order (X S : Nat → ByteArray) (P : Nat → Nat) (n : Nat) (C : List Ent) (σ : Nat → Nat) : Prop where
  lt : ∀ i, i < n → σ i < n
  ent : ∀ i, i < n → C[i]? = some ⟨Ord.keyOf (S (σ i)).data.toList, P (σ i)⟩
  inj : ∀ i j, i < n → j < n → σ i = σ j → i = j
  sorted : ∀ i, i + 1 < n → Ord.le (S (σ i)).data.toList (S (σ (i + 1))).data.toList
theorem order_exists (X S : Nat → ByteArray) (P : Nat → Nat) (n : Nat) (C : List Ent) (hC : C.Perm (ents X P n)) (sC : C.Pairwise (leX X)) (hP : ∀ j, j < n → X (P j) = S j) (hinj : ∀ i j, i < n → j < n → P i = P j → i = j) : ∃ σ, Order X S P n C σ := by
  have hlen : C.length = n := by rw [hC.length_eq, ents_length]
  have hall : ∀ i, ∃ s, i < n → s < n ∧ C[i]? = some ⟨Ord.keyOf (S s).data.toList, P s⟩ := by
    intro i
    by_cases h : i < n
    · have hm : C[i]'(by omega) ∈ ents X P n := hC.mem_iff.1 (List.getElem_mem _)
      simp only [ents, List.mem_map, List.mem_range] at hm
      obtain ⟨s, hs, e⟩ := hm
      refine ⟨s, fun _ => ⟨hs, ?_⟩⟩
      rw [List.getElem?_eq_getElem (by omega), ← e]
      unfold entOf
      rw [hP s hs]
    · exact ⟨0, fun h' => absurd h' h⟩
  obtain ⟨σ, hσ⟩ := Classical.skolem.1 hall
  have hnd : (C.map Ent.tb).Nodup := by
    refine (hC.map Ent.tb).nodup_iff.2 ?_
    unfold ents
    rw [List.map_map]
    show ((List.range n).map P).Nodup
    rw [List.nodup_iff_pairwise_ne, List.pairwise_map, List.pairwise_iff_getElem]
    intro i j hi hj hij e
    simp only [List.length_range] at hi hj
    simp only [List.getElem_range] at e
    have := hinj i j hi hj e
    omega
  refine ⟨σ, fun i hi => (hσ i hi).1, fun i hi => (hσ i hi).2, fun i j hi hj e => ?_, fun i hi => ?_⟩
  · have h1 : (C.map Ent.tb)[i]? = some (P (σ i)) := by rw [List.getElem?_map, (hσ i hi).2]; rfl
    have h2 : (C.map Ent.tb)[j]? = some (P (σ j)) := by rw [List.getElem?_map, (hσ j hj).2]; rfl
    rw [← e] at h2
    rw [List.nodup_iff_pairwise_ne, List.pairwise_iff_getElem] at hnd
    obtain ⟨g1, e1⟩ := List.getElem?_eq_some_iff.1 h1
    obtain ⟨g2, e2⟩ := List.getElem?_eq_some_iff.1 h2
    rcases Nat.lt_trichotomy i j with h | h | h
    · exact absurd (e1.trans e2.symm) (hnd i j g1 g2 h)
    · exact h
    · exact absurd (e2.trans e1.symm) (hnd j i g2 g1 h)
  · rw [List.pairwise_iff_getElem] at sC
    have h1 := (hσ i (by omega)).2
    have h2 := (hσ (i + 1) hi).2
    obtain ⟨g1, e1⟩ := List.getElem?_eq_some_iff.1 h1
    obtain ⟨g2, e2⟩ := List.getElem?_eq_some_iff.1 h2
    have h := sC i (i + 1) g1 g2 (by omega)
    rw [e1, e2] at h
    unfold leX at h
    simp only [hP _ (hσ i (by omega)).1, hP _ (hσ (i + 1) hi).1] at h
    exact h

/-- Which numbers have been met behind p entries. -/
def seenOf (σ : Nat → Nat) (p s : Nat) : Bool := (List.range p).any (fun i => σ i == s)
theorem seenOf_succ (σ : Nat → Nat) (p s : Nat) : seenOf σ (p + 1) s = (seenOf σ p s || (σ p == s)) := by simp [seenOf, List.range_succ]
theorem seenOf_new {X S : Nat → ByteArray} {P : Nat → Nat} {n : Nat} {C : List Ent} {σ : Nat → Nat} (h : Order X S P n C σ) (p : Nat) (hp : p < n) : seenOf σ p (σ p) = false := by
  unfold seenOf
  rw [List.any_eq_false]
  intro i hi
  simp only [List.mem_range] at hi
  intro e
  have := h.inj i p (by omega) hp (by simpa using e)
  omega

/-- The string before the p-th entry's. -/
def prevOf (S : Nat → ByteArray) (σ : Nat → Nat) : Nat → ByteArray
  | 0 => ⟨#[]⟩
  | p + 1 => S (σ p)

/-- Block sb is a row of n bools. -/
def SRow (w : World) (sb n : Nat) (M : Nat → Bool) : Prop :=
  ∃ cs : Array Value, w.heap[sb]? = some (.cells cs 4 (0, 0)) ∧ cs.size = n ∧ ∀ j, j < n → cs[j]? = some (.bool (M j))
theorem SRow.kept {bs : List Nat} {w w' : World} {sb n : Nat} {M : Nat → Bool} (h : SRow w sb n M) (hb : But bs w w') (hn : ¬ sb ∈ bs) : SRow w' sb n M := by
  obtain ⟨cs, h1, h2⟩ := h
  exact ⟨cs, hb.get h1 hn, h2⟩
theorem SRow.free {w : World} {sb n : Nat} {M : Nat → Bool} (h : SRow w sb n M) (j : Nat) : w.frozen? ⟨sb, j, none⟩ = false := by
  obtain ⟨cs, h1, _⟩ := h
  exact frozen_of_row w sb j cs 4 h1
theorem SRow.at {w : World} {sb n : Nat} {M : Nat → Bool} (h : SRow w sb n M) (j : Nat) (hj : j < n) : w.cell? ⟨sb, j, none⟩ = some (.bool (M j)) := by
  obtain ⟨cs, h1, h2, h3⟩ := h
  rw [cell_of_row w sb j cs 4 (0, 0) h1]
  exact h3 j hj
theorem SRow.met {w : World} {sb n : Nat} {σ : Nat → Nat} {p : Nat} (h : SRow w sb n (seenOf σ p)) (_hk : σ p < n) : SRow (w.setCell ⟨sb, σ p, none⟩ (.bool true)) sb n (seenOf σ (p + 1)) := by
  obtain ⟨cs, h1, h2, h3⟩ := h
  refine ⟨cs.setIfInBounds (σ p) (.bool true), heap_setCell_same w sb (σ p) cs 4 _ h1, by simpa using h2, fun j hj => ?_⟩
  rw [Array.getElem?_setIfInBounds, seenOf_succ]
  by_cases e : σ p = j
  · rw [if_pos e, if_pos (by omega)]; simp [e]
  · rw [if_neg e, h3 j hj]; simp [e]

end Go.Proofs.Qxb6616291a
