import Derived.Test.Qxb6616291aSortRun
/-! PLAIN LAW: eight passes sort by the key; runs of one key sorted by xid make all sorted by xid. -/
namespace Go.Proofs.Qxb6616291a

/-- The entries behind p passes. -/
def lsd (L : List Ent) : Nat → List Ent
  | 0 => L
  | p + 1 => Rdx.pass (byteAt (8 * p)) (lsd L p)
theorem lsd_perm (L : List Ent) : ∀ p, (lsd L p).Perm L
  | 0 => List.Perm.refl _
  | p + 1 => (Rdx.pass_perm _ _ (fun x _ => byteAt_lt _ x)).trans (lsd_perm L p)
theorem lsd_length (L : List Ent) (p : Nat) : (lsd L p).length = L.length := (lsd_perm L p).length_eq

theorem emod_step (k M : Int) (hM : 0 < M) : k % (M * 256) = (k / M % 256) * M + k % M := by
  have h1 := Int.emod_nonneg k (show M ≠ 0 by omega)
  have h2 := Int.emod_lt_of_pos k hM
  have h3 : 0 ≤ k / M % 256 := Int.emod_nonneg _ (by omega)
  have h4 : k / M % 256 ≤ 255 := by omega
  have e1 : k = M * (k / M) + k % M := (Int.mul_ediv_add_emod k M).symm
  have e2 : k / M = 256 * (k / M / 256) + k / M % 256 := (Int.mul_ediv_add_emod (k / M) 256).symm
  have e3 : k = ((k / M % 256) * M + k % M) + (M * 256) * (k / M / 256) := by
    have e4 : M * (k / M) = (M * 256) * (k / M / 256) + (k / M % 256) * M := by
      conv => lhs; rw [e2]
      rw [Int.mul_add, ← Int.mul_assoc, Int.mul_comm M (k / M % 256)]
    omega
  have h5 : (k / M % 256) * M ≤ 255 * M := Int.mul_le_mul_of_nonneg_right h4 (by omega)
  have h6 : 0 ≤ (k / M % 256) * M := Int.mul_nonneg h3 (by omega)
  conv => lhs; rw [e3]
  rw [Int.add_mul_emod_self_left]
  exact Int.emod_eq_of_lt (by omega) (by omega)

theorem lsd_sorted (L : List Ent) : ∀ p, (lsd L p).Pairwise (fun a b => a.key % 2 ^ (8 * p) ≤ b.key % 2 ^ (8 * p))
  | 0 => by
    rw [List.pairwise_iff_getElem]
    intro i j hi hj _
    simp
  | p + 1 => by
    have hM : (0 : Int) < 2 ^ (8 * p) := Int.pow_pos (by omega)
    have e : (2 : Int) ^ (8 * (p + 1)) = 2 ^ (8 * p) * 256 := by rw [Nat.mul_add, Int.pow_add]; rfl
    refine Rdx.pass_sorted (byteAt (8 * p)) (fun a => a.key % 2 ^ (8 * p)) (fun a => a.key % 2 ^ (8 * (p + 1))) _ (lsd_sorted L p) ?_ ?_
    · intro a b _ _ hab
      show a.key % 2 ^ (8 * (p + 1)) ≤ b.key % 2 ^ (8 * (p + 1))
      rw [e, emod_step _ _ hM, emod_step _ _ hM, ← byteAt_int, ← byteAt_int]
      have h1 := Int.emod_lt_of_pos a.key hM
      have h2 := Int.emod_nonneg b.key (show (2 : Int) ^ (8 * p) ≠ 0 by omega)
      have h3 : ((byteAt (8 * p) a : Nat) : Int) + 1 ≤ (byteAt (8 * p) b : Nat) := by omega
      have h4 := Int.mul_le_mul_of_nonneg_right h3 (show (0 : Int) ≤ 2 ^ (8 * p) by omega)
      rw [Int.add_mul, Int.one_mul] at h4
      omega
    · intro a b _ _ hab hg
      show a.key % 2 ^ (8 * (p + 1)) ≤ b.key % 2 ^ (8 * (p + 1))
      rw [e, emod_step _ _ hM, emod_step _ _ hM, ← byteAt_int, ← byteAt_int, hab]
      have : a.key % 2 ^ (8 * p) ≤ b.key % 2 ^ (8 * p) := hg
      omega

theorem lsd_keys (L : List Ent) (hk : ∀ e ∈ L, 0 ≤ e.key ∧ e.key < 18446744073709551616) : (lsd L 8).Pairwise (fun a b => a.key ≤ b.key) := by
  refine List.Pairwise.imp_of_mem ?_ (lsd_sorted L 8)
  intro a b ha hb hab
  have h1 := hk a ((lsd_perm L 8).mem_iff.1 ha)
  have h2 := hk b ((lsd_perm L 8).mem_iff.1 hb)
  have e : (2 : Int) ^ (8 * 8) = 18446744073709551616 := by decide
  rw [e, Int.emod_eq_of_lt h1.1 h1.2, Int.emod_eq_of_lt h2.1 h2.2] at hab
  exact hab

/-- Key of place u. -/
def kf (S : List Ent) (u : Nat) : Int := (S.map (·.key)).getD u 0
theorem kf_at (S C : List Ent) (h : C.map (·.key) = S.map (·.key)) (u : Nat) (hu : u < C.length) : C[u].key = kf S u := by
  unfold kf; rw [← h]; simp [hu]
theorem kf_mono (S : List Ent) (hs : S.Pairwise (fun a b => a.key ≤ b.key)) (u v : Nat) (huv : u ≤ v) (hv : v < S.length) : kf S u ≤ kf S v := by
  rw [← kf_at S S rfl u (by omega), ← kf_at S S rfl v hv]
  by_cases e : u = v
  · subst e; exact Int.le_refl _
  · exact (List.pairwise_iff_getElem.1 hs) u v (by omega) hv (by omega)

/-- The runs ahead of place i are done. -/
structure Runs (X : Nat → ByteArray) (S : List Ent) (i : Nat) (C : List Ent) : Prop where
  perm : C.Perm S
  keys : C.map (·.key) = S.map (·.key)
  sorted : (C.take i).Pairwise (leX X)
  edge : ∀ u v, u < i → i ≤ v → v < S.length → kf S u < kf S v

theorem Runs.start (X : Nat → ByteArray) (S : List Ent) : Runs X S 0 S := ⟨List.Perm.refl _, rfl, by simp, fun u v h => by omega⟩
theorem Runs.len {X : Nat → ByteArray} {S : List Ent} {i : Nat} {C : List Ent} (h : Runs X S i C) : C.length = S.length := h.perm.length_eq

theorem Runs.step {X : Nat → ByteArray} {S : List Ent} {i : Nat} {C : List Ent} (h : Runs X S i C) (hs : S.Pairwise (fun a b => a.key ≤ b.key)) (hkey : ∀ e ∈ S, e.key = Ord.keyOf (X e.tb).data.toList) (j : Nat) (hij : i < j) (hj : j ≤ S.length)
    (hrun : ∀ v, i ≤ v → v < j → kf S v = kf S i) (hend : j < S.length → kf S i < kf S j) (R : List Ent) (hp : R.Perm ((C.drop i).take (j - i))) (hR : R.Pairwise (leX X)) : Runs X S j (C.take i ++ R ++ C.drop (i + (j - i))) := by
  have hlen := h.len
  have hRl : R.length = j - i := by rw [hp.length_eq]; simp; omega
  have hti : (C.take i).length = i := by simp; omega
  have hji : i + (j - i) = j := by omega
  rw [hji]
  have hseg : C = C.take i ++ ((C.drop i).take (j - i)) ++ C.drop j := by
    have e1 : C.drop j = (C.drop i).drop (j - i) := by rw [List.drop_drop, hji]
    rw [e1, List.append_assoc, List.take_append_drop, List.take_append_drop]
  have hRk : ∀ e ∈ R, e.key = kf S i := by
    intro e he
    have hm := hp.mem_iff.1 he
    obtain ⟨u, hu, rfl⟩ := List.getElem_of_mem hm
    have hu' : u < j - i := by simp at hu; omega
    rw [List.getElem_take, List.getElem_drop, kf_at S C h.keys (i + u) (by omega)]
    exact hrun (i + u) (by omega) (by omega)
  have hSk : ∀ e ∈ (C.drop i).take (j - i), e.key = kf S i := fun e he => hRk e (hp.mem_iff.2 he)
  have hmap : R.map (·.key) = ((C.drop i).take (j - i)).map (·.key) := by
    have e1 : R.map (·.key) = List.replicate (j - i) (kf S i) := List.eq_replicate_iff.2 ⟨by simp [hRl], fun b hb => by obtain ⟨e, he, rfl⟩ := List.mem_map.1 hb; exact hRk e he⟩
    have e2 : ((C.drop i).take (j - i)).map (·.key) = List.replicate (j - i) (kf S i) := List.eq_replicate_iff.2 ⟨by rw [List.length_map, ← hp.length_eq, hRl], fun b hb => by obtain ⟨e, he, rfl⟩ := List.mem_map.1 hb; exact hSk e he⟩
    rw [e1, e2]
  have hpC : (C.take i ++ R ++ C.drop j).Perm C := by
    conv => rhs; rw [hseg]
    exact (hp.append_left _).append_right _
  refine ⟨hpC.trans h.perm, ?_, ?_, ?_⟩
  · rw [← h.keys]
    conv => rhs; rw [hseg]
    simp only [List.map_append, hmap]
  · have e1 : (C.take i ++ R ++ C.drop j).take j = C.take i ++ R := by
      rw [List.take_append_of_le_length (by simp [hRl]; omega), List.take_of_length_le (by simp [hRl]; omega)]
    rw [e1, List.pairwise_append]
    refine ⟨h.sorted, hR, fun a ha b hb => ?_⟩
    have hb' : b ∈ C := by
      have := hp.mem_iff.1 hb
      exact List.mem_of_mem_drop (List.mem_of_mem_take this)
    have ha' : a ∈ C := List.mem_of_mem_take ha
    obtain ⟨u, hu, hau⟩ := List.getElem_of_mem ha
    have hu' : u < i := by omega
    have hak : a.key = kf S u := by rw [← hau, List.getElem_take]; exact kf_at S C h.keys u (by omega)
    have hlt : a.key < b.key := by rw [hak, hRk b hb]; exact h.edge u i hu' (by omega) (by omega)
    rw [hkey a (h.perm.mem_iff.1 ha'), hkey b (h.perm.mem_iff.1 hb')] at hlt
    exact Ord.le_of_key _ _ hlt
  · intro u v hu hv hvl
    by_cases c : u < i
    · exact h.edge u v c (by omega) hvl
    · rw [hrun u (by omega) hu]
      have h1 := hend (by omega)
      have h2 := kf_mono S hs j v hv hvl
      omega

theorem Runs.done {X : Nat → ByteArray} {S : List Ent} {C : List Ent} (h : Runs X S S.length C) : C.Pairwise (leX X) := by
  have := h.sorted
  rwa [List.take_of_length_le (by rw [h.len]; exact Nat.le_refl _)] at this
/-- A run of one entry needs no sorting. -/
theorem Runs.one {X : Nat → ByteArray} {S : List Ent} {i : Nat} {C : List Ent} (h : Runs X S i C) (hs : S.Pairwise (fun a b => a.key ≤ b.key)) (hkey : ∀ e ∈ S, e.key = Ord.keyOf (X e.tb).data.toList) (hi : i + 1 ≤ S.length) (hend : i + 1 < S.length → kf S i < kf S (i + 1)) : Runs X S (i + 1) C := by
  have hlen := h.len
  have h1 := h.step hs hkey (i + 1) (by omega) hi (fun v g1 g2 => by rw [show v = i by omega]) hend ((C.drop i).take (i + 1 - i)) (List.Perm.refl _) (by
    rw [show i + 1 - i = 1 by omega, List.take_one]
    cases (C.drop i).head? <;> simp)
  have e : C.take i ++ ((C.drop i).take (i + 1 - i)) ++ C.drop (i + (i + 1 - i)) = C := by
    have e1 : C.drop (i + (i + 1 - i)) = (C.drop i).drop (i + 1 - i) := by rw [List.drop_drop]
    rw [e1, List.append_assoc, List.take_append_drop, List.take_append_drop]
  rwa [e] at h1

end Go.Proofs.Qxb6616291a
