namespace Go.Proofs.Qxb6603421a.RI
/-! ### Which of the pieces have been met among the first k of another order of them. No Go in sight. -/
def usedB (ps Q : List (Nat × Nat)) (k q : Nat) : Bool := decide (q < ps.length ∧ ps.getD q (0, 0) ∈ Q.take k)
def uses (ps Q : List (Nat × Nat)) (k : Nat) : List Bool := (List.range 16).map (usedB ps Q k)
theorem uses_len (ps Q : List (Nat × Nat)) (k : Nat) : (uses ps Q k).length = 16 := by simp [uses]
theorem uses_at (ps Q : List (Nat × Nat)) (k q : Nat) (h : q < 16) : (uses ps Q k).getD q false = usedB ps Q k q := by simp [uses, h]
theorem uses_zero (ps Q : List (Nat × Nat)) : uses ps Q 0 = List.replicate 16 false := by
  have e : usedB ps Q 0 = fun _ => false := by funext q; simp [usedB]
  unfold uses; rw [e]; rfl
theorem getD_mem (l : List (Nat × Nat)) (k : Nat) (h : k < l.length) : l.getD k (0, 0) ∈ l := by
  have e : l.getD k (0, 0) = l[k] := by simp [h]
  rw [e]; exact List.getElem_mem h
theorem getD_inj {l : List (Nat × Nat)} (hn : l.Nodup) {i j : Nat} (hi : i < l.length) (hj : j < l.length) (h : l.getD i (0, 0) = l.getD j (0, 0)) : i = j := by
  have e1 : l.getD i (0, 0) = l[i] := by simp [hi]
  have e2 : l.getD j (0, 0) = l[j] := by simp [hj]
  rw [e1, e2] at h
  exact (List.getElem_inj hn).mp h
/-- The place among the pieces of the k-th in the other order. -/
theorem place {ps Q : List (Nat × Nat)} (hp : Q.Perm ps) (hn : ps.Nodup) (h16 : ps.length ≤ 16) (k : Nat) (hk : k < Q.length) :
    ∃ q, q < ps.length ∧ ps.getD q (0, 0) = Q.getD k (0, 0) ∧ usedB ps Q k q = false ∧ (∀ t, t < ps.length → t ≠ q → ps.getD t (0, 0) ≠ Q.getD k (0, 0)) ∧ (uses ps Q k).set q true = uses ps Q (k + 1) := by
  have hnQ : Q.Nodup := hp.nodup_iff.mpr hn
  have hm : Q.getD k (0, 0) ∈ ps := hp.mem_iff.mp (getD_mem Q k hk)
  obtain ⟨q, hq, e⟩ := List.mem_iff_getElem.mp hm
  have e' : ps.getD q (0, 0) = Q.getD k (0, 0) := by rw [← e]; simp [hq]
  have huniq : ∀ t, t < ps.length → t ≠ q → ps.getD t (0, 0) ≠ Q.getD k (0, 0) := fun t ht hne h => hne (getD_inj hn ht hq (by rw [h, e']))
  have hnot : Q.getD k (0, 0) ∉ Q.take k := by
    intro h
    obtain ⟨i, hi, ei⟩ := List.mem_iff_getElem.mp h
    have hik : i < k := by simp at hi; omega
    have : Q.getD i (0, 0) = Q.getD k (0, 0) := by rw [← ei]; simp [show i < Q.length by omega]
    have := getD_inj hnQ (by omega) hk this
    omega
  refine ⟨q, hq, e', ?_, huniq, ?_⟩
  · simp only [usedB, decide_eq_false_iff_not]; rintro ⟨_, h⟩; rw [e'] at h; exact hnot h
  · apply List.ext_getElem?
    intro i
    rw [List.getElem?_set]
    by_cases hi : i < 16
    · by_cases hqi : q = i
      · subst hqi
        rw [if_pos rfl, if_pos (by rw [uses_len]; exact hi)]
        have : usedB ps Q (k + 1) q = true := by
          simp only [usedB, decide_eq_true_eq]
          refine ⟨hq, ?_⟩
          rw [List.take_succ_eq_append_getElem hk, e', show Q.getD k (0, 0) = Q[k] from by simp [hk]]
          exact List.mem_append.mpr (Or.inr (List.mem_singleton.mpr rfl))
        simp [uses, hi, this]
      · rw [if_neg hqi]
        have : usedB ps Q (k + 1) i = usedB ps Q k i := by
          simp only [usedB]
          congr 1
          rw [List.take_succ_eq_append_getElem hk]
          apply propext
          constructor
          · rintro ⟨a, b⟩
            refine ⟨a, ?_⟩
            rcases List.mem_append.mp b with b | b
            · exact b
            · exfalso
              apply huniq i a (fun e => hqi e.symm)
              rw [List.mem_singleton] at b
              rw [b]; simp [hk]
          · rintro ⟨a, b⟩
            exact ⟨a, List.mem_append.mpr (Or.inl b)⟩
        simp [uses, hi, this]
    · have h1 : (uses ps Q (k + 1))[i]? = none := List.getElem?_eq_none (by rw [uses_len]; omega)
      have h2 : (uses ps Q k)[i]? = none := List.getElem?_eq_none (by rw [uses_len]; omega)
      rw [if_neg (by omega), h1, h2]
end Go.Proofs.Qxb6603421a.RI
