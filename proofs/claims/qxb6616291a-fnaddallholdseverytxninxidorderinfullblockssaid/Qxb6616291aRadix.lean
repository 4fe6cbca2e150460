/-! PLAIN LAW: one pass of a stable counting sort, as lists. No Go here. -/
namespace Go.Proofs.Qxb6616291a.Rdx
variable {α : Type}

/-- Those of L whose byte is b, in their order. -/
def bin (f : α → Nat) (L : List α) (b : Nat) : List α := L.filter (fun e => f e == b)
/-- One pass: bin after bin. -/
def upTo (f : α → Nat) (L : List α) (m : Nat) : List α := (List.range m).flatMap (bin f L)
def pass (f : α → Nat) (L : List α) : List α := upTo f L 256
/-- Where bin b begins. -/
def start (f : α → Nat) (L : List α) (b : Nat) : Nat := (upTo f L b).length

theorem upTo_succ (f : α → Nat) (L : List α) (m : Nat) : upTo f L (m + 1) = upTo f L m ++ bin f L m := by
  unfold upTo; rw [List.range_succ, List.flatMap_append]; simp
theorem start_zero (f : α → Nat) (L : List α) : start f L 0 = 0 := rfl
theorem start_succ (f : α → Nat) (L : List α) (b : Nat) : start f L (b + 1) = start f L b + (bin f L b).length := by
  unfold start; rw [upTo_succ, List.length_append]

theorem upTo_prefix (f : α → Nat) (L : List α) : ∀ (d m : Nat), ∃ R, upTo f L (m + d) = upTo f L m ++ R
  | 0, m => ⟨[], by simp⟩
  | d + 1, m => by
    obtain ⟨R, hR⟩ := upTo_prefix f L d m
    exact ⟨R ++ bin f L (m + d), by rw [← Nat.add_assoc, upTo_succ, hR, List.append_assoc]⟩

/-- Element j of bin b lies at start b + j. -/
theorem pass_at (f : α → Nat) (L : List α) (b j : Nat) (hb : b < 256) (hj : j < (bin f L b).length) : (pass f L)[start f L b + j]? = (bin f L b)[j]? := by
  obtain ⟨R, hR⟩ := upTo_prefix f L (255 - b) (b + 1)
  have e : pass f L = upTo f L b ++ (bin f L b ++ R) := by
    unfold pass
    rw [show 256 = b + 1 + (255 - b) by omega, hR, upTo_succ, List.append_assoc]
  rw [e]
  unfold start
  rw [List.getElem?_append_right (by omega), Nat.add_sub_cancel_left, List.getElem?_append_left hj]

theorem bin_cons (f : α → Nat) (x : α) (L : List α) (b : Nat) : bin f (x :: L) b = if f x = b then x :: bin f L b else bin f L b := by
  unfold bin; rw [List.filter_cons]; simp

theorem upTo_nil (f : α → Nat) : ∀ m, upTo f ([] : List α) m = []
  | 0 => rfl
  | m + 1 => by rw [upTo_succ, upTo_nil f m]; rfl

theorem upTo_cons_perm (f : α → Nat) (x : α) (L : List α) : ∀ m, (upTo f (x :: L) m).Perm (if f x < m then x :: upTo f L m else upTo f L m)
  | 0 => by simp [upTo]
  | m + 1 => by
    rw [upTo_succ, upTo_succ, bin_cons]
    have ih := upTo_cons_perm f x L m
    by_cases h : f x < m
    · rw [if_pos h] at ih
      rw [if_neg (by omega : ¬ f x = m), if_pos (by omega)]
      exact ih.append_right _
    · rw [if_neg h] at ih
      by_cases e : f x = m
      · rw [if_pos e, if_pos (by omega)]
        exact (ih.append_right _).trans (List.perm_middle)
      · rw [if_neg e, if_neg (by omega)]
        exact ih.append_right _

theorem pass_perm (f : α → Nat) : ∀ (L : List α), (∀ x ∈ L, f x < 256) → (pass f L).Perm L
  | [], _ => by unfold pass; rw [upTo_nil]
  | x :: L, h => by
    have h1 := upTo_cons_perm f x L 256
    rw [if_pos (h x (by simp))] at h1
    exact h1.trans ((pass_perm f L (fun y hy => h y (by simp [hy]))).cons x)

theorem start_all (f : α → Nat) (L : List α) (h : ∀ x ∈ L, f x < 256) : start f L 256 = L.length := (pass_perm f L h).length_eq

/-- Every place belongs to a bin. -/
theorem cover (f : α → Nat) (L : List α) : ∀ (m u : Nat), u < start f L m → ∃ b j, b < m ∧ j < (bin f L b).length ∧ u = start f L b + j
  | 0, u, h => by simp [start_zero] at h
  | m + 1, u, h => by
    rw [start_succ] at h
    by_cases c : u < start f L m
    · obtain ⟨b, j, h1, h2, h3⟩ := cover f L m u c
      exact ⟨b, j, by omega, h2, h3⟩
    · exact ⟨m, u - start f L m, by omega, by omega, by omega⟩

/-- How many of the first k have byte b. -/
def cnt (f : α → Nat) (L : List α) (k b : Nat) : Nat := (bin f (L.take k) b).length
theorem cnt_zero (f : α → Nat) (L : List α) (b : Nat) : cnt f L 0 b = 0 := by simp [cnt, bin]
theorem cnt_all (f : α → Nat) (L : List α) (b : Nat) : cnt f L L.length b = (bin f L b).length := by simp [cnt]
theorem cnt_succ (f : α → Nat) (L : List α) (k b : Nat) (h : k < L.length) : cnt f L (k + 1) b = cnt f L k b + if f L[k] = b then 1 else 0 := by
  unfold cnt bin
  rw [List.take_succ_eq_append_getElem h, List.filter_append, List.length_append]
  by_cases c : f L[k] = b <;> simp [c]
theorem bin_split (f : α → Nat) (L : List α) (k b : Nat) : bin f L b = bin f (L.take k) b ++ bin f (L.drop k) b := by
  unfold bin; rw [← List.filter_append, List.take_append_drop]
theorem cnt_le (f : α → Nat) (L : List α) (k b : Nat) : cnt f L k b ≤ (bin f L b).length := by
  rw [bin_split f L k b, List.length_append]; unfold cnt; omega
theorem cnt_le_k (f : α → Nat) (L : List α) (k b : Nat) : cnt f L k b ≤ k := by
  unfold cnt bin
  exact Nat.le_trans (List.length_filter_le _ _) (List.length_take_le _ _)
/-- The next element of its bin is the element itself. -/
theorem bin_next (f : α → Nat) (L : List α) (k : Nat) (h : k < L.length) : (bin f L (f L[k]))[cnt f L k (f L[k])]? = some L[k] := by
  rw [bin_split f L k]
  unfold cnt
  rw [List.getElem?_append_right (by omega), Nat.sub_self, List.drop_eq_getElem_cons h, bin_cons]
  simp
theorem cnt_lt (f : α → Nat) (L : List α) (k : Nat) (h : k < L.length) : cnt f L k (f L[k]) < (bin f L (f L[k])).length :=
  (List.getElem?_eq_some_iff.1 (bin_next f L k h)).1
theorem pass_next (f : α → Nat) (L : List α) (k : Nat) (h : k < L.length) (hb : f L[k] < 256) : (pass f L)[start f L (f L[k]) + cnt f L k (f L[k])]? = some L[k] := by
  rw [pass_at f L _ _ hb (cnt_lt f L k h)]
  exact bin_next f L k h
theorem start_le (f : α → Nat) (L : List α) : ∀ (d m : Nat), start f L m ≤ start f L (m + d)
  | 0, m => by simp
  | d + 1, m => by rw [← Nat.add_assoc, start_succ]; have := start_le f L d m; omega
theorem place_lt (f : α → Nat) (L : List α) (k : Nat) (h : k < L.length) (hall : ∀ x ∈ L, f x < 256) : start f L (f L[k]) + cnt f L k (f L[k]) < L.length := by
  have h1 := cnt_lt f L k h
  have h2 := start_succ f L (f L[k])
  have h3 := hall L[k] (List.getElem_mem h)
  have h4 := start_le f L (255 - f L[k]) (f L[k] + 1)
  rw [show f L[k] + 1 + (255 - f L[k]) = 256 by omega, start_all f L hall] at h4
  omega

/-- ORDER: sorted by g ahead of the pass, sorted by (byte, g) behind it. -/
theorem pass_sorted (f : α → Nat) (g g' : α → Int) (L : List α) (hs : L.Pairwise (fun a b => g a ≤ g b)) (hlt : ∀ a b, a ∈ L → b ∈ L → f a < f b → g' a ≤ g' b) (heq : ∀ a b, a ∈ L → b ∈ L → f a = f b → g a ≤ g b → g' a ≤ g' b) :
    (pass f L).Pairwise (fun a b => g' a ≤ g' b) := by
  have key : ∀ m, (upTo f L m).Pairwise (fun a b => g' a ≤ g' b) := by
    intro m
    induction m with
    | zero => simp [upTo]
    | succ m ih =>
      rw [upTo_succ, List.pairwise_append]
      refine ⟨ih, ?_, ?_⟩
      · have h1 : (bin f L m).Pairwise (fun a b => g a ≤ g b) := hs.filter _
        refine List.Pairwise.imp_of_mem ?_ h1
        intro a b ha hb hab
        unfold bin at ha hb
        simp only [List.mem_filter, beq_iff_eq] at ha hb
        exact heq a b ha.1 hb.1 (by rw [ha.2, hb.2]) hab
      · intro a ha b hb
        unfold upTo at ha
        unfold bin at ha hb
        simp only [List.mem_flatMap, List.mem_range, List.mem_filter, beq_iff_eq] at ha hb
        obtain ⟨c, hc, ha1, ha2⟩ := ha
        exact hlt a b ha1 hb.1 (by omega)
  exact key 256

end Go.Proofs.Qxb6616291a.Rdx
