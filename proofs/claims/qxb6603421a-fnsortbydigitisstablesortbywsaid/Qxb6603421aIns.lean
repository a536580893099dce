namespace Go.Proofs.Qxb6603421a.RI
/-! ### An insertion sort by exchanges of neighbours: 'lt' need not be more than asymmetric. No Go in sight. -/
variable {α : Type} (lt : α → α → Bool) (d : α)
/-- Place t does not lie before place t - 1. -/
def okAt (Q : List α) (t : Nat) : Prop := lt (Q.getD t d) (Q.getD (t - 1) d) = false
/-- Ahead of round k: the first k places are in order. -/
def Out (Q : List α) (k : Nat) : Prop := ∀ t, 1 ≤ t → t < k → okAt lt d Q t
/-- In round k, the new one at place j. -/
def Inn (Q : List α) (k j : Nat) : Prop := (∀ t, 1 ≤ t → t ≤ k → t ≠ j → okAt lt d Q t) ∧ (1 ≤ j → j < k → lt (Q.getD (j + 1) d) (Q.getD (j - 1) d) = false)
def swp (Q : List α) (j : Nat) : List α := (Q.set (j - 1) (Q.getD j d)).set j (Q.getD (j - 1) d)
theorem inn_start {Q : List α} {k : Nat} (h : Out lt d Q k) : Inn lt d Q k k := ⟨fun t a b c => h t a (by omega), fun _ b => by omega⟩
theorem inn_zero {Q : List α} {k : Nat} (h : Inn lt d Q k 0) : Out lt d Q (k + 1) := fun t a b => h.1 t a (by omega) (by omega)
theorem inn_stop {Q : List α} {k j : Nat} (h : Inn lt d Q k j) (hs : lt (Q.getD j d) (Q.getD (j - 1) d) = false) : Out lt d Q (k + 1) := fun t a b => by
  by_cases e : t = j
  · subst e; exact hs
  · exact h.1 t a (by omega) e
theorem swp_len (Q : List α) (j : Nat) : (swp d Q j).length = Q.length := by simp [swp]
theorem getD_set (l : List α) (i j : Nat) (v : α) : (l.set i v).getD j d = if i = j ∧ i < l.length then v else l.getD j d := by
  simp only [List.getD_eq_getElem?_getD, List.getElem?_set]
  by_cases h : i = j
  · subst h
    by_cases h2 : i < l.length
    · simp [h2]
    · simp [h2]
  · simp [h]
theorem swp_at (Q : List α) (j t : Nat) (hj : 1 ≤ j) (hl : j < Q.length) : (swp d Q j).getD t d = if t = j then Q.getD (j - 1) d else if t = j - 1 then Q.getD j d else Q.getD t d := by
  unfold swp
  rw [getD_set, getD_set, List.length_set]
  by_cases h1 : t = j
  · rw [if_pos ⟨h1.symm, hl⟩, if_pos h1]
  · rw [if_neg (fun h => h1 h.1.symm), if_neg h1]
    by_cases h2 : t = j - 1
    · rw [if_pos ⟨h2.symm, by omega⟩, if_pos h2]
    · rw [if_neg (fun h => h2 h.1.symm), if_neg h2]
theorem inn_swap {Q : List α} {k j : Nat} (asym : ∀ a b, lt a b = true → lt b a = false) (h : Inn lt d Q k j) (hj : 1 ≤ j) (hjk : j ≤ k) (hk : k < Q.length) (hs : lt (Q.getD j d) (Q.getD (j - 1) d) = true) :
    Inn lt d (swp d Q j) k (j - 1) := by
  refine ⟨fun t a b c => ?_, fun a b => ?_⟩
  · unfold okAt
    rw [swp_at d Q j t hj (by omega), swp_at d Q j (t - 1) hj (by omega)]
    by_cases e1 : t = j
    · rw [if_pos e1, if_neg (by omega), if_pos (by omega)]
      exact asym _ _ hs
    · by_cases e2 : t = j + 1
      · subst e2
        rw [if_neg (by omega), if_neg (by omega), if_pos (by omega)]
        exact h.2 hj (by omega)
      · rw [if_neg e1, if_neg c, if_neg (by omega), if_neg (by omega)]
        exact h.1 t a b (by omega)
  · rw [swp_at d Q j _ hj (by omega), swp_at d Q j _ hj (by omega), if_pos (by omega), if_neg (by omega), if_neg (by omega)]
    exact h.1 (j - 1) (by omega) (by omega) (by omega)
theorem swp_perm (Q : List α) (j : Nat) (hj : 1 ≤ j) (hl : j < Q.length) : (swp d Q j).Perm Q := by
  have := List.set_set_perm (as := Q) (i := j - 1) (j := j) (by omega) hl
  unfold swp
  have e1 : Q.getD j d = Q[j] := by simp [hl]
  have e2 : Q.getD (j - 1) d = Q[j - 1]'(by omega) := by simp [show j - 1 < Q.length by omega]
  rw [e1, e2]
  exact this
end Go.Proofs.Qxb6603421a.RI
