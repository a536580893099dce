namespace Go.Proofs.Qxb6603421a.RI

/-! ### The pieces of a text, as the places at which they begin and end: no Go in sight. 'am i': byte i is the separator. -/
def isSt (am : Nat → Bool) (i : Nat) : Bool := !am i && (i == 0 || am (i - 1))
def endAt (am : Nat → Bool) : Nat → Nat → Nat
  | 0, i => i
  | f + 1, i => if am i then i else endAt am f (i + 1)
/-- The pieces that begin ahead of k, in a text of n bytes. -/
def P (am : Nat → Bool) (n k : Nat) : List (Nat × Nat) := ((List.range k).filter (isSt am)).map fun i => (i, endAt am (n - i) i)

theorem endAt_eq (am : Nat → Bool) (f i e : Nat) (h1 : i ≤ e) (h2 : e ≤ i + f) (h3 : ∀ j, i ≤ j → j < e → am j = false) (h4 : e = i + f ∨ am e = true) : endAt am f i = e := by
  induction f generalizing i with
  | zero => simp only [endAt]; omega
  | succ f ih =>
    simp only [endAt]
    by_cases hi : i = e
    · subst hi
      rcases h4 with h4 | h4
      · omega
      · rw [if_pos h4]
    · rw [if_neg (by rw [h3 i (by omega) (by omega)]; simp)]
      exact ih (i + 1) (by omega) (by omega) (fun j a b => h3 j (by omega) b) (by rcases h4 with h4 | h4; left; omega; right; exact h4)
theorem endAt_bd (am : Nat → Bool) (f i : Nat) : i ≤ endAt am f i ∧ endAt am f i ≤ i + f := by
  induction f generalizing i with
  | zero => simp [endAt]
  | succ f ih =>
    simp only [endAt]
    split
    · omega
    · have := ih (i + 1); omega
theorem endAt_pos (am : Nat → Bool) (f i : Nat) (h : am i = false) : i < endAt am (f + 1) i := by
  simp only [endAt, h]
  have := endAt_bd am f (i + 1)
  simp; omega

theorem P_zero (am : Nat → Bool) (n : Nat) : P am n 0 = [] := rfl
theorem P_yes (am : Nat → Bool) (n k : Nat) (h : isSt am k = true) : P am n (k + 1) = P am n k ++ [(k, endAt am (n - k) k)] := by
  simp [P, List.range_succ, List.filter_append, h]
theorem P_no (am : Nat → Bool) (n k : Nat) (h : isSt am k = false) : P am n (k + 1) = P am n k := by
  simp [P, List.range_succ, List.filter_append, h]
theorem P_run (am : Nat → Bool) (n k m : Nat) (h : k ≤ m) (hn : ∀ j, k ≤ j → j < m → isSt am j = false) : P am n m = P am n k := by
  induction m with
  | zero => obtain rfl : k = 0 := by omega
            rfl
  | succ m ih =>
    by_cases e : k = m + 1
    · subst e; rfl
    · rw [P_no am n m (hn m (by omega) (by omega))]
      exact ih (by omega) (fun j a b => hn j a (by omega))
theorem P_prefix (am : Nat → Bool) (n k m : Nat) (h : k ≤ m) : ∃ r, P am n m = P am n k ++ r := by
  induction m with
  | zero => exact ⟨[], by rw [show k = 0 from by omega]; simp⟩
  | succ m ih =>
    by_cases e : k = m + 1
    · subst e; exact ⟨[], by simp⟩
    · obtain ⟨r, hr⟩ := ih (by omega)
      by_cases hs : isSt am m = true
      · exact ⟨r ++ [(m, endAt am (n - m) m)], by rw [P_yes am n m hs, hr, List.append_assoc]⟩
      · exact ⟨r, by rw [P_no am n m (by simpa using hs), hr]⟩
theorem P_len (am : Nat → Bool) (n k m : Nat) (h : k ≤ m) : (P am n k).length ≤ (P am n m).length := by
  obtain ⟨r, hr⟩ := P_prefix am n k m h; rw [hr]; simp

/-- Every piece is not empty and lies within the text. -/
theorem P_in (am : Nat → Bool) (n k : Nat) (hk : k ≤ n) : ∀ p ∈ P am n k, p.1 < p.2 ∧ p.2 ≤ n := by
  intro p hp
  simp only [P, List.mem_map, List.mem_filter, List.mem_range] at hp
  obtain ⟨i, ⟨hi, hs⟩, rfl⟩ := hp
  have ha : am i = false := by simp [isSt] at hs; exact hs.1
  have b := endAt_bd am (n - i) i
  have q := endAt_pos am (n - i - 1) i ha
  rw [show n - i - 1 + 1 = n - i from by omega] at q
  exact ⟨q, by simp only; omega⟩
theorem P_incr (am : Nat → Bool) (n k : Nat) : (P am n k).Pairwise fun a b => a.1 < b.1 := by
  unfold P
  rw [List.pairwise_map]
  exact List.Pairwise.filter _ List.pairwise_lt_range
theorem pw_mono {α : Type} {R S : α → α → Prop} (h : ∀ a b, R a b → S a b) (l : List α) (hp : l.Pairwise R) : l.Pairwise S := by
  induction l with
  | nil => exact List.Pairwise.nil
  | cons a l ih =>
    rw [List.pairwise_cons] at hp ⊢
    exact ⟨fun b hb => h a b (hp.1 b hb), ih hp.2⟩
theorem P_nodup (am : Nat → Bool) (n k : Nat) : (P am n k).Nodup :=
  pw_mono (fun a b h e => by rw [e] at h; omega) _ (P_incr am n k)

/-! ### What readInline's scan holds ahead of byte i: 'st': where the run that it is in began. -/
def Scan (am : Nat → Bool) (n i st : Nat) (ps : List (Nat × Nat)) : Prop :=
  (i ≤ n ∧ st ≤ i ∧ (∀ j, st ≤ j → j < i → am j = false) ∧ (st = 0 ∨ am (st - 1) = true) ∧ ps = P am n st) ∨ (i = n + 1 ∧ ps = P am n n)
theorem scan_start (am : Nat → Bool) (n : Nat) : Scan am n 0 0 [] := Or.inl ⟨Nat.zero_le _, Nat.le_refl _, fun j _ h => by omega, Or.inl rfl, rfl⟩
theorem scan_on {am : Nat → Bool} {n i st : Nat} {ps : List (Nat × Nat)} (h : Scan am n i st ps) (hi : i < n) (ha : am i = false) : Scan am n (i + 1) st ps := by
  rcases h with ⟨h1, h2, h3, h4, h5⟩ | ⟨h1, _⟩
  · exact Or.inl ⟨by omega, by omega, fun j a b => if e : j = i then by rw [e]; exact ha else h3 j a (by omega), h4, h5⟩
  · omega
theorem scan_piece {am : Nat → Bool} {n i st : Nat} {ps : List (Nat × Nat)} (h : Scan am n i st ps) (hi : i ≤ n) (hb : i = n ∨ am i = true) (hs : st < i) :
    Scan am n (i + 1) (i + 1) (ps ++ [(st, i)]) ∧ ps.length < (P am n n).length := by
  rcases h with ⟨h1, h2, h3, h4, h5⟩ | ⟨h1, _⟩
  · have hst : isSt am st = true := by
      simp only [isSt, h3 st (by omega) hs]
      rcases h4 with h4 | h4 <;> simp [h4]
    have he : endAt am (n - st) st = i := endAt_eq am (n - st) st i (by omega) (by omega) h3 (by rcases hb with hb | hb; left; omega; right; exact hb)
    have e1 : P am n (st + 1) = ps ++ [(st, i)] := by rw [P_yes am n st hst, he, h5]
    have e2 : P am n i = ps ++ [(st, i)] := by
      rw [← e1]
      refine P_run am n (st + 1) i (by omega) fun j a b => ?_
      simp only [isSt, h3 j (by omega) b, h3 (j - 1) (by omega) (by omega)]
      simp; omega
    have hl : ps.length < (P am n n).length := by
      have := P_len am n i n hi
      rw [e2] at this; simp at this; omega
    refine ⟨?_, hl⟩
    by_cases e : i = n
    · exact Or.inr ⟨by omega, by rw [← e2, e]⟩
    · have ha : am i = true := by rcases hb with hb | hb; omega; exact hb
      exact Or.inl ⟨by omega, by omega, fun j a b => by omega, Or.inr (by simpa using ha), by rw [P_no am n i (by simp [isSt, ha]), e2]⟩
  · omega
theorem scan_none {am : Nat → Bool} {n i st : Nat} {ps : List (Nat × Nat)} (h : Scan am n i st ps) (hi : i ≤ n) (hb : i = n ∨ am i = true) (hs : ¬ st < i) :
    Scan am n (i + 1) (i + 1) ps := by
  rcases h with ⟨h1, h2, h3, h4, h5⟩ | ⟨h1, _⟩
  · obtain rfl : st = i := by omega
    by_cases e : st = n
    · exact Or.inr ⟨by omega, by rw [h5, e]⟩
    · have ha : am st = true := by rcases hb with hb | hb; omega; exact hb
      exact Or.inl ⟨by omega, by omega, fun j a b => by omega, Or.inr (by simpa using ha), by rw [P_no am n st (by simp [isSt, ha]), h5]⟩
  · omega
theorem scan_end {am : Nat → Bool} {n i st : Nat} {ps : List (Nat × Nat)} (h : Scan am n i st ps) (hi : ¬ i ≤ n) : ps = P am n n := by
  rcases h with ⟨h1, _⟩ | ⟨_, h2⟩
  · omega
  · exact h2
theorem scan_bd {am : Nat → Bool} {n i st : Nat} {ps : List (Nat × Nat)} (h : Scan am n i st ps) : ps.length ≤ (P am n n).length ∧ i ≤ n + 1 := by
  rcases h with ⟨h1, h2, h3, h4, h5⟩ | ⟨h1, h2⟩
  · exact ⟨by rw [h5]; exact P_len am n st n (by omega), by omega⟩
  · exact ⟨by rw [h2]; exact Nat.le_refl _, by omega⟩
end Go.Proofs.Qxb6603421a.RI
