/-
  THE PLAIN LAW OF A BINARY HEAP OF SLOTS: 'up' restores the order; the root is the least. No Go in sight.
-/
namespace Go.Proofs.Ybulkdxgu

/-- The slots of k and l exchanged. -/
def swp (ps : List (Int × Int)) (k l : Nat) : List (Int × Int) := (ps.set k (ps.getD l (0, 0))).set l (ps.getD k (0, 0))
theorem swp_length (ps : List (Int × Int)) (k l : Nat) : (swp ps k l).length = ps.length := by simp [swp]
theorem swp_k (ps : List (Int × Int)) (k l : Nat) (hk : k < ps.length) (hne : k ≠ l) : (swp ps k l).getD k (0, 0) = ps.getD l (0, 0) := by
  rw [swp, List.getD, List.getElem?_set_ne (fun e => hne e.symm), List.getElem?_set_self hk]; rfl
theorem swp_l (ps : List (Int × Int)) (k l : Nat) (hl : l < ps.length) : (swp ps k l).getD l (0, 0) = ps.getD k (0, 0) := by
  rw [swp, List.getD, List.getElem?_set_self (by simpa using hl)]; rfl
theorem swp_other (ps : List (Int × Int)) (k l j : Nat) (h1 : j ≠ k) (h2 : j ≠ l) : (swp ps k l).getD j (0, 0) = ps.getD j (0, 0) := by
  rw [swp, List.getD, List.getElem?_set_ne (fun e => h2 e.symm), List.getElem?_set_ne (fun e => h1 e.symm)]; rfl

/-- Whether x is the time of one of the slots. -/
def Has (ps : List (Int × Int)) (x : Int) : Prop := ∃ j, j < ps.length ∧ (ps.getD j (0, 0)).1 = x
theorem has_swp (ps : List (Int × Int)) (k l : Nat) (hk : k < ps.length) (hl : l < ps.length) (hne : k ≠ l) (x : Int) : Has (swp ps k l) x ↔ Has ps x := by
  constructor
  · rintro ⟨j, hj, rfl⟩
    rw [swp_length] at hj
    by_cases h1 : j = k
    · exact ⟨l, hl, by rw [h1, swp_k ps k l hk hne]⟩
    · by_cases h2 : j = l
      · exact ⟨k, hk, by rw [h2, swp_l ps k l hl]⟩
      · exact ⟨j, hj, by rw [swp_other ps k l j h1 h2]⟩
  · rintro ⟨j, hj, rfl⟩
    by_cases h1 : j = k
    · exact ⟨l, by rw [swp_length]; exact hl, by rw [h1, swp_l ps k l hl]⟩
    · by_cases h2 : j = l
      · exact ⟨k, by rw [swp_length]; exact hk, by rw [h2, swp_k ps k l hk hne]⟩
      · exact ⟨j, by rw [swp_length]; exact hj, by rw [swp_other ps k l j h1 h2]⟩

/-- The heap's order: no slot is before its parent. -/
def Heap (ps : List (Int × Int)) : Prop := ∀ j, 0 < j → j < ps.length → (ps.getD ((j - 1) / 2) (0, 0)).1 ≤ (ps.getD j (0, 0)).1
/-- The heap's order but at k, which may be before its parent; k's children are not before k's parent. -/
def HeapBut (ps : List (Int × Int)) (k : Nat) : Prop :=
  (∀ j, 0 < j → j < ps.length → j ≠ k → (ps.getD ((j - 1) / 2) (0, 0)).1 ≤ (ps.getD j (0, 0)).1) ∧
  (∀ j, 0 < j → j < ps.length → (j - 1) / 2 = k → 0 < k → (ps.getD ((k - 1) / 2) (0, 0)).1 ≤ (ps.getD j (0, 0)).1)

theorem heap_root {ps : List (Int × Int)} (h : HeapBut ps 0) : Heap ps := fun j h0 hj => h.1 j h0 hj (by omega)
theorem heap_stop {ps : List (Int × Int)} {k : Nat} (h : HeapBut ps k) (hk : (ps.getD ((k - 1) / 2) (0, 0)).1 ≤ (ps.getD k (0, 0)).1) : Heap ps := fun j h0 hj => by
  by_cases e : j = k
  · rw [e]; exact hk
  · exact h.1 j h0 hj e
theorem heap_step {ps : List (Int × Int)} {k : Nat} (h : HeapBut ps k) (h0 : 0 < k) (hk : k < ps.length) (hlt : (ps.getD k (0, 0)).1 < (ps.getD ((k - 1) / 2) (0, 0)).1) : HeapBut (swp ps k ((k - 1) / 2)) ((k - 1) / 2) := by
  have hne : k ≠ (k - 1) / 2 := by omega
  have hl : (k - 1) / 2 < ps.length := by omega
  have ek := swp_k ps k ((k - 1) / 2) hk hne
  have el := swp_l ps k ((k - 1) / 2) hl
  have eo := swp_other ps k ((k - 1) / 2)
  refine ⟨fun j j0 hj hjl => ?_, fun j j0 hj hjp hp0 => ?_⟩
  · rw [swp_length] at hj
    by_cases jk : j = k
    · subst jk
      rw [ek, el]
      omega
    · rw [eo j jk hjl]
      by_cases pk : (j - 1) / 2 = k
      · rw [pk, ek]
        exact h.2 j j0 hj pk h0
      · by_cases pl : (j - 1) / 2 = (k - 1) / 2
        · rw [pl, el]
          have := h.1 j j0 hj jk
          rw [pl] at this
          omega
        · rw [eo _ pk pl]
          exact h.1 j j0 hj jk
  · rw [swp_length] at hj
    have g1 : ((k - 1) / 2 - 1) / 2 ≠ k := by omega
    have g2 : ((k - 1) / 2 - 1) / 2 ≠ (k - 1) / 2 := by omega
    rw [eo _ g1 g2]
    have hp := h.1 ((k - 1) / 2) hp0 hl (by omega)
    by_cases jk : j = k
    · subst jk
      rw [ek]
      exact hp
    · rw [eo j jk (by omega)]
      have := h.1 j j0 hj jk
      rw [hjp] at this
      omega
/-- One slot more at the end. -/
theorem heap_push {ps : List (Int × Int)} (h : Heap ps) (q : Int × Int) : HeapBut (ps ++ [q]) ps.length := by
  have e : ∀ j, j < ps.length → (ps ++ [q]).getD j (0, 0) = ps.getD j (0, 0) := fun j hj => by
    rw [List.getD, List.getElem?_append_left hj]; rfl
  refine ⟨fun j j0 hj hne => ?_, fun j j0 hj hp h0 => ?_⟩
  · simp only [List.length_append, List.length_cons, List.length_nil] at hj
    rw [e j (by omega), e _ (by omega)]
    exact h j j0 (by omega)
  · simp only [List.length_append, List.length_cons, List.length_nil] at hj
    omega
theorem has_push (ps : List (Int × Int)) (q : Int × Int) (x : Int) : Has (ps ++ [q]) x ↔ Has ps x ∨ q.1 = x := by
  constructor
  · rintro ⟨j, hj, rfl⟩
    by_cases h : j < ps.length
    · exact .inl ⟨j, h, by rw [List.getD, List.getD, List.getElem?_append_left h]⟩
    · simp only [List.length_append, List.length_cons, List.length_nil] at hj
      obtain rfl : j = ps.length := by omega
      exact .inr (by simp)
  · rintro (⟨j, hj, rfl⟩ | rfl)
    · exact ⟨j, by simp; omega, by rw [List.getD, List.getD, List.getElem?_append_left hj]⟩
    · exact ⟨ps.length, by simp, by simp⟩
/-- The root is the least. -/
theorem root_least {ps : List (Int × Int)} (h : Heap ps) : ∀ n j, j ≤ n → j < ps.length → (ps.getD 0 (0, 0)).1 ≤ (ps.getD j (0, 0)).1
  | 0, j, hn, _ => by
    obtain rfl : j = 0 := by omega
    exact Int.le_refl _
  | n + 1, j, hn, hj => by
    by_cases h0 : j = 0
    · subst h0; exact Int.le_refl _
    · exact Int.le_trans (root_least h n ((j - 1) / 2) (by omega) (by omega)) (h j (by omega) hj)

end Go.Proofs.Ybulkdxgu
