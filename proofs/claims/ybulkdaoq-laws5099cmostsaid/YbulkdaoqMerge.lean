import Derived.Test.YbulkdaoqPlain
namespace Go.Proofs.Ybulkdaoq

/-! ### The merge of two sorted rows, step by step -/

structure Mg (S : Nat → ByteArray) (n s : Nat) (L : Nat → Nat) (i j : Nat) (M : List Nat) : Prop where
  hi : i ≤ s
  hj : s + j ≤ n
  len : M.length = i + j
  perm : M.Perm ((List.range i).map L ++ (List.range j).map fun t => L (s + t))
  srt : M.Pairwise (ple S)
  bb : ∀ x ∈ M, ∀ t, i ≤ t → t < s → ple S x (L t)
  bm : ∀ x ∈ M, ∀ t, s + j ≤ t → t < n → ple S x (L t)

theorem ple_refl (S : Nat → ByteArray) (p : Nat) : ple S p p := by unfold ple; exact List.lt_irrefl _

section
variable {S : Nat → ByteArray} {n s : Nat} {L : Nat → Nat} {i j : Nat} {M : List Nat}

theorem Mg.start (hs : s ≤ n) : Mg S n s L 0 0 [] :=
  ⟨Nat.zero_le _, by omega, rfl, by simp, List.Pairwise.nil, fun x hx => absurd hx (by simp), fun x hx => absurd hx (by simp)⟩

theorem Mg.left (h : Mg S n s L i j M) (hb : ∀ a b, a < b → b < s → ple S (L a) (L b)) (hm : ∀ a b, s ≤ a → a < b → b < n → ple S (L a) (L b)) (h1 : i < s) (_h2 : s + j < n) (hlt : ple S (L i) (L (s + j))) : Mg S n s L (i + 1) j (M ++ [L i]) := by
  refine ⟨h1, h.hj, by simp [h.len]; omega, ?_, ?_, ?_, ?_⟩
  · rw [List.range_succ, List.map_append]
    refine (h.perm.append_right _).trans ?_
    simp only [List.map_cons, List.map_nil, List.append_assoc]
    exact (List.perm_append_comm).append_left _
  · rw [List.pairwise_append]
    refine ⟨h.srt, by simp, fun x hx y hy => ?_⟩
    simp at hy
    subst hy
    exact h.bb x hx i (Nat.le_refl _) h1
  · intro x hx t ht1 ht2
    rw [List.mem_append] at hx
    rcases hx with hx | hx
    · exact h.bb x hx t (by omega) ht2
    · simp at hx
      subst hx
      exact hb i t (by omega) ht2
  · intro x hx t ht1 ht2
    rw [List.mem_append] at hx
    rcases hx with hx | hx
    · exact h.bm x hx t ht1 ht2
    · simp at hx
      subst hx
      by_cases e : t = s + j
      · rw [e]; exact hlt
      · exact ple_trans hlt (hm (s + j) t (by omega) (by omega) ht2)

theorem Mg.right (h : Mg S n s L i j M) (hb : ∀ a b, a < b → b < s → ple S (L a) (L b)) (hm : ∀ a b, s ≤ a → a < b → b < n → ple S (L a) (L b)) (_h1 : i < s) (h2 : s + j < n) (hlt : ple S (L (s + j)) (L i)) : Mg S n s L i (j + 1) (M ++ [L (s + j)]) := by
  refine ⟨h.hi, by omega, by simp [h.len]; omega, ?_, ?_, ?_, ?_⟩
  · rw [List.range_succ, List.map_append]
    refine (h.perm.append_right _).trans ?_
    simp only [List.map_cons, List.map_nil, List.append_assoc]
    exact List.Perm.refl _
  · rw [List.pairwise_append]
    refine ⟨h.srt, by simp, fun x hx y hy => ?_⟩
    simp at hy
    subst hy
    exact h.bm x hx (s + j) (Nat.le_refl _) h2
  · intro x hx t ht1 ht2
    rw [List.mem_append] at hx
    rcases hx with hx | hx
    · exact h.bb x hx t ht1 ht2
    · simp at hx
      subst hx
      by_cases e : t = i
      · rw [e]; exact hlt
      · exact ple_trans hlt (hb i t (by omega) ht2)
  · intro x hx t ht1 ht2
    rw [List.mem_append] at hx
    rcases hx with hx | hx
    · exact h.bm x hx t (by omega) ht2
    · simp at hx
      subst hx
      exact hm (s + j) t (by omega) (by omega) ht2

/-- What is left of both rows, behind what is merged. -/
def mergedAll (n s : Nat) (L : Nat → Nat) (i j : Nat) (M : List Nat) : List Nat := (M ++ (List.range (s - i)).map fun t => L (i + t)) ++ (List.range (n - s - j)).map fun t => L (s + j + t)

theorem range_add (a b : Nat) (f : Nat → Nat) : (List.range (a + b)).map f = (List.range a).map f ++ (List.range b).map fun t => f (a + t) := by
  rw [List.range_add, List.map_append, List.map_map]
  rfl

theorem sorted_part (f : Nat → Nat) (m : Nat) (h : ∀ a b, a < b → b < m → ple S (f a) (f b)) : ((List.range m).map f).Pairwise (ple S) := by
  rw [List.pairwise_map]
  refine List.Pairwise.imp_of_mem ?_ List.pairwise_lt_range
  intro a b _ hb hab
  exact h a b hab (List.mem_range.1 hb)

theorem Mg.done (h : Mg S n s L i j M) (hb : ∀ a b, a < b → b < s → ple S (L a) (L b)) (hm : ∀ a b, s ≤ a → a < b → b < n → ple S (L a) (L b)) (he : i = s ∨ s + j = n) :
    (mergedAll n s L i j M).length = n ∧ (mergedAll n s L i j M).Perm ((List.range n).map L) ∧ (mergedAll n s L i j M).Pairwise (ple S) := by
  have hi := h.hi
  have hj := h.hj
  refine ⟨by simp [mergedAll, h.len]; omega, ?_, ?_⟩
  · unfold mergedAll
    have e1 : (List.range n).map L = (List.range i).map L ++ ((List.range (s - i)).map fun t => L (i + t)) ++ (((List.range j).map fun t => L (s + t)) ++ (List.range (n - s - j)).map fun t => L (s + j + t)) := by
      have a1 : n = s + (j + (n - s - j)) := by omega
      have a2 : s = i + (s - i) := by omega
      conv => lhs; rw [a1, range_add, range_add]
      congr 1
      · conv => lhs; rw [a2, range_add]
      · congr 1
        apply List.map_congr_left
        intro t _
        rw [Nat.add_assoc]
    rw [e1]
    refine (List.Perm.append_right _ (h.perm.append_right _)).trans ?_
    simp only [List.append_assoc]
    refine List.Perm.append_left _ ?_
    rw [← List.append_assoc, ← List.append_assoc]
    exact List.Perm.append_right _ List.perm_append_comm
  · unfold mergedAll
    rw [List.pairwise_append, List.pairwise_append]
    refine ⟨⟨h.srt, sorted_part _ _ (fun a b hab hb' => hb _ _ (by omega) (by omega)), fun x hx y hy => ?_⟩, sorted_part _ _ (fun a b hab hb' => hm _ _ (by omega) (by omega) (by omega)), fun x hx y hy => ?_⟩
    · simp at hy
      obtain ⟨t, ht, rfl⟩ := hy
      exact h.bb x hx _ (by omega) (by omega)
    · simp at hy
      obtain ⟨t, ht, rfl⟩ := hy
      rw [List.mem_append] at hx
      rcases hx with hx | hx
      · exact h.bm x hx _ (by omega) (by omega)
      · simp at hx
        obtain ⟨t', ht', rfl⟩ := hx
        rcases he with he | he <;> omega
end

/-! ### From a sorted permutation to what zzs5099cfull asks -/

theorem perm_lt {n : Nat} {L : Nat → Nat} (h : ((List.range n).map L).Perm (List.range n)) : ∀ i, i < n → L i < n := fun i hi =>
  List.mem_range.1 (h.mem_iff.1 (List.mem_map.2 ⟨i, List.mem_range.2 hi, rfl⟩))

theorem perm_inj {n : Nat} {L : Nat → Nat} (h : ((List.range n).map L).Perm (List.range n)) : ∀ i j, i < n → j < n → L i = L j → i = j := by
  intro i j hi hj e
  have hnd : ((List.range n).map L).Nodup := h.nodup_iff.2 List.nodup_range
  have hp := List.pairwise_iff_getElem.1 hnd
  rcases Nat.lt_trichotomy i j with hlt | rfl | hlt
  · have hx := hp i j (by simpa using hi) (by simpa using hj) hlt
    rw [List.getElem_map, List.getElem_map, List.getElem_range, List.getElem_range] at hx
    exact absurd e hx
  · rfl
  · have hx := hp j i (by simpa using hj) (by simpa using hi) hlt
    rw [List.getElem_map, List.getElem_map, List.getElem_range, List.getElem_range] at hx
    exact absurd e.symm hx

theorem ids_sorted {S : Nat → ByteArray} {n : Nat} {L : Nat → Nat} (h : ((List.range n).map L).Perm (List.range n)) (hs : ∀ i j, i < j → j < n → ple S (L i) (L j)) :
    (((List.range n).map fun i => (S i).data.toList).mergeSort fun x y => decide (x ≤ y)) = (List.range n).map fun i => (S (L i)).data.toList := by
  refine List.Perm.eq_of_pairwise (le := fun x y => x ≤ y) (fun a b _ _ h1 h2 => List.le_antisymm h1 h2) ?_ ?_ ?_
  · have := List.pairwise_mergeSort (le := fun x y : List UInt8 => decide (x ≤ y)) (fun a b c h1 h2 => by simp only [decide_eq_true_eq] at *; exact List.le_trans h1 h2) (fun a b => by
      simp only [Bool.or_eq_true, decide_eq_true_eq]; exact List.le_total a b) ((List.range n).map fun i => (S i).data.toList)
    exact this.imp (fun h => by simpa using h)
  · rw [List.pairwise_map]
    refine List.Pairwise.imp_of_mem ?_ List.pairwise_lt_range
    intro a b _ hb hab
    have := hs a b hab (List.mem_range.1 hb)
    unfold ple at this
    rwa [List.not_lt] at this
  · refine (List.mergeSort_perm _ _).trans ?_
    have := (h.map (fun i => (S i).data.toList)).symm
    rwa [List.map_map] at this

end Go.Proofs.Ybulkdaoq
