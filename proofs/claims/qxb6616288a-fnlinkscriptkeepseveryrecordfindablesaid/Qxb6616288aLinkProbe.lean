/-! PLAIN LAW: probing in a ring of n slots. No Go here. -/
namespace Go.Proofs.Qxb6616288a.Lnk

/-- Slot d steps along the run that starts at h. -/
def at_ (h d n : Nat) : Nat := (h + d) % n

theorem at_lt (h d n : Nat) (hn : 0 < n) : at_ h d n < n := Nat.mod_lt _ hn
theorem at_zero (h n : Nat) (hh : h < n) : at_ h 0 n = h := by unfold at_; exact Nat.mod_eq_of_lt (by omega)
theorem at_succ (h d n : Nat) : (at_ h d n + 1) % n = at_ h (d + 1) n := by unfold at_; rw [Nat.mod_add_mod]; rfl
/-- The number of steps is told by the slot. -/
theorem at_back (h d n : Nat) (hh : h < n) (hd : d < n) : (at_ h d n + n - h) % n = d := by
  unfold at_
  by_cases c : h + d < n
  · rw [Nat.mod_eq_of_lt c]
    rw [show h + d + n - h = d + n by omega, Nat.add_mod_right, Nat.mod_eq_of_lt hd]
  · have e : (h + d) % n = h + d - n := by
      rw [Nat.mod_eq_sub_mod (by omega), Nat.mod_eq_of_lt (by omega)]
    rw [e, show h + d - n + n - h = d by omega, Nat.mod_eq_of_lt hd]
theorem at_onto (h i n : Nat) (hh : h < n) (hi : i < n) : ∃ d, d < n ∧ at_ h d n = i := by
  by_cases c : h ≤ i
  · exact ⟨i - h, by omega, by unfold at_; rw [show h + (i - h) = i by omega, Nat.mod_eq_of_lt hi]⟩
  · exact ⟨i + n - h, by omega, by unfold at_; rw [show h + (i + n - h) = i + n by omega, Nat.add_mod_right, Nat.mod_eq_of_lt hi]⟩

/-- The least number with a property that some number below n has. -/
theorem least (p : Nat → Prop) (h : ∃ d, p d) : ∃ d, p d ∧ ∀ d', d' < d → ¬ p d' := by
  obtain ⟨d, hd⟩ := h
  induction d using Nat.strongRecOn with
  | ind d ih =>
    by_cases c : ∃ d', d' < d ∧ p d'
    · obtain ⟨d', h1, h2⟩ := c
      exact ih d' h1 h2
    · exact ⟨d, hd, fun d' h1 h2 => c ⟨d', h1, h2⟩⟩

/-- Pigeons: a list of fewer than n numbers misses one below n. -/
theorem missed : ∀ (n : Nat) (L : List Nat), L.length < n → ∃ i, i < n ∧ ¬ i ∈ L
  | 0, L, h => by omega
  | n + 1, L, h => by
    by_cases c : n ∈ L
    · have hl : (L.erase n).length < n := by
        rw [List.length_erase_of_mem c]
        have : 0 < L.length := List.length_pos_of_mem c
        omega
      obtain ⟨i, hi, hn⟩ := missed n (L.erase n) hl
      refine ⟨i, by omega, fun hm => hn ?_⟩
      exact (List.mem_erase_of_ne (by omega)).2 hm
    · exact ⟨n, by omega, c⟩

/-- THE STATE BEHIND t LINKS: W j the slot word of record j, H j its home, P j where it was put; T the index. -/
structure Inv (n : Nat) (W : Nat → Int) (H : Nat → Nat) (t : Nat) (T : Nat → Int) (P : Nat → Nat) : Prop where
  lt : ∀ j, j < t → P j < n
  there : ∀ j, j < t → T (P j) = W j
  rest : ∀ i, i < n → (∀ j, j < t → P j ≠ i) → T i = 0
  run : ∀ j, j < t → ∃ d, d < n ∧ P j = at_ (H j) d n ∧ ∀ d', d' < d → T (at_ (H j) d' n) ≠ 0

theorem Inv.start (n : Nat) (W : Nat → Int) (H : Nat → Nat) (P : Nat → Nat) : Inv n W H 0 (fun _ => 0) P :=
  ⟨fun j h => by omega, fun j h => by omega, fun _ _ _ => rfl, fun j h => by omega⟩

/-- A used slot is a record's. -/
theorem Inv.owner {n : Nat} {W : Nat → Int} {H : Nat → Nat} {t : Nat} {T : Nat → Int} {P : Nat → Nat} (h : Inv n W H t T P) (i : Nat) (hi : i < n) (hz : T i ≠ 0) : ∃ j, j < t ∧ P j = i ∧ T i = W j := by
  by_cases c : ∃ j, j < t ∧ P j = i
  · obtain ⟨j, h1, h2⟩ := c
    exact ⟨j, h1, h2, by rw [← h2]; exact h.there j h1⟩
  · exact absurd (h.rest i hi (fun j hj e => c ⟨j, hj, e⟩)) hz

/-- With fewer records than slots every run meets an empty slot. -/
theorem Inv.empty {n : Nat} {W : Nat → Int} {H : Nat → Nat} {t : Nat} {T : Nat → Int} {P : Nat → Nat} (h : Inv n W H t T P) (ht : t < n) (s : Nat) (hs : s < n) : ∃ d, d < n ∧ T (at_ s d n) = 0 ∧ ∀ d', d' < d → T (at_ s d' n) ≠ 0 := by
  obtain ⟨i, hi, hm⟩ := missed n ((List.range t).map P) (by simpa using ht)
  have hz : T i = 0 := h.rest i hi (fun j hj e => hm (by rw [List.mem_map]; exact ⟨j, by simpa using hj, e⟩))
  obtain ⟨d, hd, he⟩ := at_onto s i n hs hi
  obtain ⟨d0, h0, hl⟩ := least (fun d => T (at_ s d n) = 0) ⟨d, by rw [he]; exact hz⟩
  refine ⟨d0, ?_, h0, hl⟩
  by_cases c : d0 < n
  · exact c
  · exact absurd (by rw [he]; exact hz : T (at_ s d n) = 0) (hl d (by omega))

/-- One record more, in the first empty slot of its run. -/
theorem Inv.step {n : Nat} {W : Nat → Int} {H : Nat → Nat} {t : Nat} {T : Nat → Int} {P : Nat → Nat} (h : Inv n W H t T P) (hn : 0 < n) (hw : W t ≠ 0) (d : Nat) (hd : d < n) (he : T (at_ (H t) d n) = 0) (hr : ∀ d', d' < d → T (at_ (H t) d' n) ≠ 0) (hW : ∀ j, j < t → W j ≠ 0)
    (P' : Nat → Nat) (h1 : ∀ j, j < t → P' j = P j) (h2 : P' t = at_ (H t) d n) : Inv n W H (t + 1) (fun k => if k = at_ (H t) d n then W t else T k) P' := by
  refine ⟨fun j hj => ?_, fun j hj => ?_, fun i hi hm => ?_, fun j hj => ?_⟩
  · by_cases c : j = t
    · subst c; rw [h2]; exact at_lt _ _ _ hn
    · rw [h1 j (by omega)]; exact h.lt j (by omega)
  · by_cases c : j = t
    · subst c; rw [h2]; simp
    · have hj' : j < t := by omega
      rw [h1 j hj']
      have hne : P j ≠ at_ (H t) d n := by
        intro e
        have := h.there j hj'
        rw [e, he] at this
        exact hW j hj' this.symm
      simp only [if_neg hne]
      exact h.there j hj'
  · have hne : i ≠ at_ (H t) d n := by
      intro e
      exact hm t (by omega) (by rw [h2, e])
    simp only [if_neg hne]
    exact h.rest i hi (fun j hj => by rw [← h1 j hj]; exact hm j (by omega))
  · by_cases c : j = t
    · subst c
      refine ⟨d, hd, h2, fun d' hd' => ?_⟩
      show (if at_ (H j) d' n = at_ (H j) d n then W j else T (at_ (H j) d' n)) ≠ 0
      split
      · exact hw
      · exact hr d' hd'
    · have hj' : j < t := by omega
      obtain ⟨dj, g1, g2, g3⟩ := h.run j hj'
      refine ⟨dj, g1, by rw [h1 j hj']; exact g2, fun d' hd' => ?_⟩
      show (if at_ (H j) d' n = at_ (H t) d n then W t else T (at_ (H j) d' n)) ≠ 0
      split
      · exact hw
      · exact g3 d' hd'

/-- Record j is found where it was put: along its run nothing is empty and nothing else bears its word. -/
theorem Inv.find {n : Nat} {W : Nat → Int} {H : Nat → Nat} {t : Nat} {T : Nat → Int} {P : Nat → Nat} (h : Inv n W H t T P) (hn : 0 < n) (hd : ∀ j k, j < t → k < t → W j = W k → j = k) (hH : ∀ j, j < t → H j < n) (j : Nat) (hj : j < t) :
    ∃ d, d < n ∧ at_ (H j) d n = P j ∧ T (at_ (H j) d n) = W j ∧ ∀ d', d' < d → T (at_ (H j) d' n) ≠ 0 ∧ T (at_ (H j) d' n) ≠ W j := by
  obtain ⟨d, g1, g2, g3⟩ := h.run j hj
  refine ⟨d, g1, g2.symm, by rw [← g2]; exact h.there j hj, fun d' hd' => ⟨g3 d' hd', fun e => ?_⟩⟩
  obtain ⟨k, k1, k2, k3⟩ := h.owner _ (at_lt _ _ _ hn) (g3 d' hd')
  have ek : k = j := hd k j k1 hj (by rw [← k3]; exact e)
  subst ek
  have e1 := at_back (H k) d' n (hH k hj) (by omega)
  have e2 := at_back (H k) d n (hH k hj) g1
  rw [← k2, g2, e2] at e1
  omega

/-- A record that was never linked ends at an empty slot. -/
theorem Inv.lack {n : Nat} {W : Nat → Int} {H : Nat → Nat} {t : Nat} {T : Nat → Int} {P : Nat → Nat} (h : Inv n W H t T P) (hn : 0 < n) (ht : t < n) (s : Nat) (hs : s < n) (v : Int) (hv : ∀ j, j < t → W j ≠ v) :
    ∃ d, d < n ∧ T (at_ s d n) = 0 ∧ ∀ d', d' < d → T (at_ s d' n) ≠ 0 ∧ T (at_ s d' n) ≠ v := by
  obtain ⟨d, g1, g2, g3⟩ := h.empty ht s hs
  refine ⟨d, g1, g2, fun d' hd' => ⟨g3 d' hd', fun e => ?_⟩⟩
  obtain ⟨k, k1, k2, k3⟩ := h.owner _ (at_lt _ _ _ hn) (g3 d' hd')
  exact hv k k1 (by rw [← k3]; exact e)

end Go.Proofs.Qxb6616288a.Lnk
