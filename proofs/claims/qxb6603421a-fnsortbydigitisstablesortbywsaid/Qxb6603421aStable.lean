namespace Go.Proofs.Qxb6603421a.SD
/-! ### Stable sorts by a number, characterised: no Go in sight. -/
variable {α : Type} (rk : α → Nat)

/-- R is in order by rk, and keeps, of each number, those that U has, in U's order. -/
def SS (R U : List α) : Prop := R.Pairwise (fun a b => rk a ≤ rk b) ∧ ∀ v, R.filter (fun a => rk a == v) = U.filter (fun a => rk a == v)

theorem fpos {v : Nat} {x : α} (l : List α) (h : rk x = v) : (x :: l).filter (fun a => rk a == v) = x :: l.filter (fun a => rk a == v) := List.filter_cons_of_pos (by simpa using h)
theorem fneg {v : Nat} {x : α} (l : List α) (h : ¬ rk x = v) : (x :: l).filter (fun a => rk a == v) = l.filter (fun a => rk a == v) := List.filter_cons_of_neg (by simpa using h)
theorem ss_nil : SS rk [] [] := ⟨List.Pairwise.nil, fun _ => rfl⟩
theorem ss_one (a : α) : SS rk [a] [a] := ⟨List.pairwise_singleton _ _, fun _ => rfl⟩
theorem SS.mem {R U : List α} (h : SS rk R U) (a : α) : a ∈ R ↔ a ∈ U := by
  have h1 : ∀ (X Y : List α), (∀ v, X.filter (fun a => rk a == v) = Y.filter (fun a => rk a == v)) → ∀ a, a ∈ X → a ∈ Y := by
    intro X Y hf a ha
    have : a ∈ X.filter (fun b => rk b == rk a) := List.mem_filter.mpr ⟨ha, by simp⟩
    rw [hf] at this
    exact (List.mem_filter.mp this).1
  exact ⟨h1 R U h.2 a, h1 U R (fun v => (h.2 v).symm) a⟩

/-- The stable sort is one. -/
theorem ss_uniq {R R' U : List α} (h : SS rk R U) (h' : SS rk R' U) : R = R' := by
  have key : ∀ (R R' : List α), R.Pairwise (fun a b => rk a ≤ rk b) → R'.Pairwise (fun a b => rk a ≤ rk b) → (∀ v, R.filter (fun a => rk a == v) = R'.filter (fun a => rk a == v)) → R = R' := by
    intro R
    induction R with
    | nil =>
      intro R' _ _ hf
      cases R' with
      | nil => rfl
      | cons b R' => have := hf (rk b); simp at this
    | cons a R ih =>
      intro R' hp hp' hf
      cases R' with
      | nil => have := hf (rk a); simp at this
      | cons b R' =>
        rw [List.pairwise_cons] at hp hp'
        have ma : ∀ x ∈ a :: R, rk a ≤ rk x := by
          intro x hx
          rcases List.mem_cons.mp hx with rfl | hx
          · exact Nat.le_refl _
          · exact hp.1 x hx
        have mb : ∀ x ∈ b :: R', rk b ≤ rk x := by
          intro x hx
          rcases List.mem_cons.mp hx with rfl | hx
          · exact Nat.le_refl _
          · exact hp'.1 x hx
        have hb : b ∈ a :: R := by
          have : b ∈ (b :: R').filter (fun x => rk x == rk b) := List.mem_filter.mpr ⟨by simp, by simp⟩
          rw [← hf] at this; exact (List.mem_filter.mp this).1
        have ha : a ∈ b :: R' := by
          have : a ∈ (a :: R).filter (fun x => rk x == rk a) := List.mem_filter.mpr ⟨by simp, by simp⟩
          rw [hf] at this; exact (List.mem_filter.mp this).1
        have e : rk a = rk b := Nat.le_antisymm (ma b hb) (mb a ha)
        have hv := hf (rk a)
        rw [List.filter_cons_of_pos (by simp), List.filter_cons_of_pos (by simp [e])] at hv
        injection hv with hab hrest
        subst hab
        congr 1
        refine ih R' hp.2 hp'.2 fun v => ?_
        by_cases hv : rk a = v
        · subst hv; exact hrest
        · have := hf v
          rw [List.filter_cons_of_neg (by simpa using hv), List.filter_cons_of_neg (by simpa using hv)] at this
          exact this
  exact key R R' h.1 h'.1 (fun v => by rw [h.2, h'.2])

/-- Two runs, each in order, merged: the first one's where both are equal. -/
def merge : List α → List α → List α
  | [], ys => ys
  | x :: xs, ys => go x xs (merge xs) ys
where
  go (x : α) (xs : List α) (nx : List α → List α) : List α → List α
    | [] => x :: xs
    | y :: ys => if rk y < rk x then y :: go x xs nx ys else x :: nx (y :: ys)
theorem merge_nil_right (xs : List α) : merge rk xs [] = xs := by cases xs <;> rfl
theorem merge_cons (x y : α) (xs ys : List α) : merge rk (x :: xs) (y :: ys) = if rk y < rk x then y :: merge rk (x :: xs) ys else x :: merge rk xs (y :: ys) := rfl

theorem mem_merge (xs ys : List α) (a : α) : a ∈ merge rk xs ys ↔ a ∈ xs ∨ a ∈ ys := by
  induction xs generalizing ys with
  | nil => simp [merge]
  | cons x xs ih =>
    induction ys with
    | nil => rw [merge_nil_right]; simp
    | cons y ys ih2 =>
      rw [merge_cons]
      split
      · rw [List.mem_cons, ih2]; simp only [List.mem_cons]
        constructor
        · rintro (h | (h | h) | h)
          · exact Or.inr (Or.inl h)
          · exact Or.inl (Or.inl h)
          · exact Or.inl (Or.inr h)
          · exact Or.inr (Or.inr h)
        · rintro ((h | h) | h | h)
          · exact Or.inr (Or.inl (Or.inl h))
          · exact Or.inr (Or.inl (Or.inr h))
          · exact Or.inl h
          · exact Or.inr (Or.inr h)
      · rw [List.mem_cons, ih]; simp only [List.mem_cons]
        constructor
        · rintro (h | h | h)
          · exact Or.inl (Or.inl h)
          · exact Or.inl (Or.inr h)
          · exact Or.inr h
        · rintro ((h | h) | h)
          · exact Or.inl h
          · exact Or.inr (Or.inl h)
          · exact Or.inr (Or.inr h)
theorem merge_sorted (xs ys : List α) (hx : xs.Pairwise (fun a b => rk a ≤ rk b)) (hy : ys.Pairwise (fun a b => rk a ≤ rk b)) : (merge rk xs ys).Pairwise (fun a b => rk a ≤ rk b) := by
  induction xs generalizing ys with
  | nil => exact hy
  | cons x xs ih =>
    induction ys with
    | nil => rw [merge_nil_right]; exact hx
    | cons y ys ih2 =>
      rw [List.pairwise_cons] at hy
      rw [merge_cons]
      split
      · next hlt =>
        rw [List.pairwise_cons]
        refine ⟨fun a ha => ?_, ih2 hy.2⟩
        rw [mem_merge] at ha
        rcases ha with ha | ha
        · rw [List.pairwise_cons] at hx
          rcases List.mem_cons.mp ha with rfl | ha
          · omega
          · have := hx.1 a ha; omega
        · exact hy.1 a ha
      · next hge =>
        rw [List.pairwise_cons] at hx ⊢
        refine ⟨fun a ha => ?_, ih (y :: ys) hx.2 (by rw [List.pairwise_cons]; exact hy)⟩
        rw [mem_merge] at ha
        rcases ha with ha | ha
        · exact hx.1 a ha
        · rcases List.mem_cons.mp ha with rfl | ha
          · omega
          · have := hy.1 a ha; omega
theorem merge_filter (xs ys : List α) (hx : xs.Pairwise (fun a b => rk a ≤ rk b)) (v : Nat) : (merge rk xs ys).filter (fun a => rk a == v) = xs.filter (fun a => rk a == v) ++ ys.filter (fun a => rk a == v) := by
  induction xs generalizing ys with
  | nil => simp [merge]
  | cons x xs ih =>
    induction ys with
    | nil => rw [merge_nil_right]; simp
    | cons y ys ih2 =>
      rw [merge_cons]
      split
      · next hlt =>
        by_cases hv : rk y = v
        · have hnil : (x :: xs).filter (fun a => rk a == v) = [] := by
            rw [List.filter_eq_nil_iff]
            intro a ha
            rw [List.pairwise_cons] at hx
            rcases List.mem_cons.mp ha with rfl | ha
            · simp; omega
            · have := hx.1 a ha; simp; omega
          rw [fpos rk _ hv, ih2, hnil, List.nil_append, List.nil_append, fpos rk _ hv]
        · rw [fneg rk _ hv, ih2, fneg rk ys hv]
      · rw [List.pairwise_cons] at hx
        by_cases hv : rk x = v
        · rw [fpos rk _ hv, ih (y :: ys) hx.2, fpos rk xs hv, List.cons_append]
        · rw [fneg rk _ hv, ih (y :: ys) hx.2, fneg rk xs hv]
theorem SS.merge {X U Y V : List α} (h : SS rk X U) (k : SS rk Y V) : SS rk (merge rk X Y) (U ++ V) :=
  ⟨merge_sorted rk X Y h.1 k.1, fun v => by rw [merge_filter rk X Y h.1, List.filter_append, h.2, k.2]⟩

/-! ### An exchange of two neighbours of different numbers keeps every filter -/
theorem swap_filter (A B : List α) (x y : α) (h : rk x ≠ rk y) (v : Nat) : (A ++ y :: x :: B).filter (fun a => rk a == v) = (A ++ x :: y :: B).filter (fun a => rk a == v) := by
  rw [List.filter_append, List.filter_append]
  congr 1
  by_cases hx : rk x = v
  · have hy : ¬ rk y = v := by omega
    rw [fneg rk _ hy, fpos rk _ hx, fpos rk _ hx, fneg rk _ hy]
  · by_cases hy : rk y = v
    · rw [fpos rk _ hy, fneg rk _ hx, fneg rk _ hx, fpos rk _ hy]
    · rw [fneg rk _ hy, fneg rk _ hx, fneg rk _ hx, fneg rk _ hy]
theorem adj_sorted (d : α) (Q : List α) (h : ∀ t, 1 ≤ t → t < Q.length → rk (Q.getD (t - 1) d) ≤ rk (Q.getD t d)) : Q.Pairwise (fun a b => rk a ≤ rk b) := by
  induction Q with
  | nil => exact List.Pairwise.nil
  | cons a Q ih =>
    have hq : Q.Pairwise (fun a b => rk a ≤ rk b) := ih fun t h1 h2 => by
      have := h (t + 1) (by omega) (by simp; omega)
      rw [show t + 1 - 1 = (t - 1) + 1 from by omega] at this
      simpa using this
    rw [List.pairwise_cons]
    refine ⟨fun b hb => ?_, hq⟩
    cases Q with
    | nil => cases hb
    | cons c Q =>
      have h1 : rk a ≤ rk c := by simpa using h 1 (by omega) (by simp)
      rcases List.mem_cons.mp hb with rfl | hb
      · exact h1
      · rw [List.pairwise_cons] at hq; exact Nat.le_trans h1 (hq.1 b hb)

/-! ### Sorting by digits, the lowest first -/
def dg (b : Nat) (x : α) : Nat := rk x / 256 ^ b % 256
def pass (b : Nat) (L : List α) : List α := (List.range 256).flatMap fun v => L.filter fun x => dg rk b x == v
theorem dg_lt (b : Nat) (x : α) : dg rk b x < 256 := Nat.mod_lt _ (by omega)
theorem mod_succ (b : Nat) (x : α) : rk x % 256 ^ (b + 1) = rk x % 256 ^ b + 256 ^ b * dg rk b x := by
  rw [Nat.pow_succ, Nat.mod_mul]; rfl
theorem flat_sorted {β : Type} (R : α → α → Prop) (f : β → List α) (l : List β) (lt : β → β → Prop) (hl : l.Pairwise lt) (h1 : ∀ v ∈ l, (f v).Pairwise R) (h2 : ∀ u v, lt u v → ∀ a ∈ f u, ∀ b ∈ f v, R a b) : (l.flatMap f).Pairwise R := by
  induction l with
  | nil => exact List.Pairwise.nil
  | cons u l ih =>
    rw [List.pairwise_cons] at hl
    rw [List.flatMap_cons, List.pairwise_append]
    refine ⟨h1 u (by simp), ih hl.2 (fun v hv => h1 v (by simp [hv])), fun a ha b hb => ?_⟩
    obtain ⟨v, hv, hb⟩ := List.mem_flatMap.mp hb
    exact h2 u v (hl.1 v hv) a ha b hb
theorem sub_sorted {R : α → α → Prop} (p : α → Bool) (l : List α) (h : l.Pairwise R) : (l.filter p).Pairwise R := List.Pairwise.filter p h
theorem flat_filter (p : α → Bool) (f : Nat → List α) (n d : Nat) (hd : d < n) (h : ∀ v, v < n → v ≠ d → (f v).filter p = []) : ((List.range n).flatMap f).filter p = (f d).filter p := by
  induction n with
  | zero => omega
  | succ n ih =>
    rw [List.range_succ, List.flatMap_append, List.filter_append]
    by_cases e : d = n
    · subst e
      have : ((List.range d).flatMap f).filter p = [] := by
        rw [List.filter_eq_nil_iff]
        intro a ha hp
        obtain ⟨v, hv, hav⟩ := List.mem_flatMap.mp ha
        have hvd := List.mem_range.mp hv
        have := h v (by omega) (by omega)
        rw [List.filter_eq_nil_iff] at this
        exact this a hav hp
      rw [this]; simp
    · rw [ih (by omega) (fun v a b => h v (by omega) b)]
      have := h n (by omega) (by omega)
      simp [this]
theorem split_filter (b v : Nat) (L : List α) : L.filter (fun x => rk x % 256 ^ (b + 1) == v) = (L.filter (fun x => rk x % 256 ^ b == v % 256 ^ b)).filter (fun x => rk x % 256 ^ (b + 1) == v) := by
  rw [List.filter_filter]
  congr 1
  funext x
  by_cases h : rk x % 256 ^ (b + 1) = v
  · have : rk x % 256 ^ b = v % 256 ^ b := by
      rw [← h, Nat.mod_mod_of_dvd _ (Nat.pow_dvd_pow 256 (by omega))]
    simp [h, this]
  · simp [h]
theorem SS.by_digit {L U : List α} (b : Nat) (h : SS (fun x => rk x % 256 ^ b) L U) : SS (fun x => rk x % 256 ^ (b + 1)) (pass rk b L) U := by
  have p0 : 0 < 256 ^ b := Nat.pow_pos (by omega)
  refine ⟨?_, fun v => ?_⟩
  · refine flat_sorted _ _ _ (fun u v => u < v) List.pairwise_lt_range (fun v _ => ?_) (fun u v huv x hx y hy => ?_)
    · have hs := sub_sorted (fun x => dg rk b x == v) L h.1
      have hm : ∀ x ∈ L.filter (fun x => dg rk b x == v), dg rk b x = v := fun x hx => by simpa using (List.mem_filter.mp hx).2
      refine List.Pairwise.rec (motive := fun l _ => (∀ x ∈ l, dg rk b x = v) → l.Pairwise _) ?_ ?_ hs hm
      · intro _; exact List.Pairwise.nil
      · intro a l ha _ ih hm
        rw [List.pairwise_cons]
        refine ⟨fun y hy => ?_, ih fun x hx => hm x (by simp [hx])⟩
        have e1 := hm a (by simp)
        have e2 := hm y (by simp [hy])
        show rk a % 256 ^ (b + 1) ≤ rk y % 256 ^ (b + 1)
        rw [mod_succ, mod_succ, e1, e2]
        exact Nat.add_le_add_right (ha y hy) _
    · have e1 : dg rk b x = u := by simpa using (List.mem_filter.mp hx).2
      have e2 : dg rk b y = v := by simpa using (List.mem_filter.mp hy).2
      show rk x % 256 ^ (b + 1) ≤ rk y % 256 ^ (b + 1)
      rw [mod_succ, mod_succ, e1, e2]
      have l1 := Nat.mod_lt (rk x) p0
      have : 256 ^ b * (u + 1) ≤ 256 ^ b * v := Nat.mul_le_mul_left _ huv
      rw [Nat.mul_add] at this
      omega
  · show (pass rk b L).filter (fun x => rk x % 256 ^ (b + 1) == v) = U.filter (fun x => rk x % 256 ^ (b + 1) == v)
    rw [split_filter rk b v U, ← h.2 (v % 256 ^ b), ← split_filter rk b v L]
    have hdv : ∀ x, rk x % 256 ^ (b + 1) = v → dg rk b x = v / 256 ^ b % 256 := by
      intro x hx
      rw [← hx, mod_succ]
      rw [Nat.add_mul_div_left _ _ p0, Nat.div_eq_of_lt (Nat.mod_lt _ p0), Nat.zero_add, Nat.mod_eq_of_lt (dg_lt rk b x)]
    unfold pass
    rw [flat_filter _ _ 256 (v / 256 ^ b % 256) (Nat.mod_lt _ (by omega))]
    · rw [List.filter_filter]
      congr 1
      funext x
      by_cases hx : rk x % 256 ^ (b + 1) = v
      · simp [hx, hdv x hx]
      · simp [hx]
    · intro u _ hne
      rw [List.filter_eq_nil_iff]
      intro x hx hp
      have e1 : dg rk b x = u := by simpa using (List.mem_filter.mp hx).2
      exact hne (by rw [← e1]; exact hdv x (by simpa using hp))
/-- A digit that all share need not be sorted by. -/
theorem SS.skip {L U : List α} (b c : Nat) (h : SS (fun x => rk x % 256 ^ b) L U) (hc : ∀ x ∈ U, dg rk b x = c) : SS (fun x => rk x % 256 ^ (b + 1)) L U := by
  have hL : ∀ x ∈ L, dg rk b x = c := fun x hx => hc x ((h.mem _ x).mp hx)
  refine ⟨?_, fun v => ?_⟩
  · have hs := h.1
    refine List.Pairwise.rec (motive := fun l _ => (∀ x ∈ l, dg rk b x = c) → l.Pairwise _) ?_ ?_ hs hL
    · intro _; exact List.Pairwise.nil
    · intro a l ha _ ih hm
      rw [List.pairwise_cons]
      refine ⟨fun y hy => ?_, ih fun x hx => hm x (by simp [hx])⟩
      have e1 := hm a (by simp)
      have e2 := hm y (by simp [hy])
      show rk a % 256 ^ (b + 1) ≤ rk y % 256 ^ (b + 1)
      rw [mod_succ, mod_succ, e1, e2]
      exact Nat.add_le_add_right (ha y hy) _
  · show L.filter (fun x => rk x % 256 ^ (b + 1) == v) = U.filter (fun x => rk x % 256 ^ (b + 1) == v)
    rw [split_filter rk b v U, ← h.2 (v % 256 ^ b), ← split_filter rk b v L]
theorem ss_mod_zero (U : List α) : SS (fun x => rk x % 256 ^ 0) U U := by
  refine ⟨?_, fun _ => rfl⟩
  induction U with
  | nil => exact List.Pairwise.nil
  | cons a U ih => rw [List.pairwise_cons]; exact ⟨fun b _ => by simp [Nat.mod_one], ih⟩
theorem ss_mod_full {L U : List α} (hU : ∀ x ∈ U, rk x < 256 ^ 8) (h : SS (fun x => rk x % 256 ^ 8) L U) : SS rk L U := by
  have hL : ∀ x ∈ L, rk x < 256 ^ 8 := fun x hx => hU x ((h.mem _ x).mp hx)
  refine ⟨?_, fun v => ?_⟩
  · have hs := h.1
    refine List.Pairwise.rec (motive := fun l _ => (∀ x ∈ l, rk x < 256 ^ 8) → l.Pairwise (fun a b => rk a ≤ rk b)) ?_ ?_ hs hL
    · intro _; exact List.Pairwise.nil
    · intro a l ha _ ih hm
      rw [List.pairwise_cons]
      refine ⟨fun y hy => ?_, ih fun x hx => hm x (by simp [hx])⟩
      have : rk a % 256 ^ 8 ≤ rk y % 256 ^ 8 := ha y hy
      rw [Nat.mod_eq_of_lt (hm a (by simp)), Nat.mod_eq_of_lt (hm y (by simp [hy]))] at this
      exact this
  · have f : ∀ M : List α, (∀ x ∈ M, rk x < 256 ^ 8) → M.filter (fun a => rk a == v) = M.filter (fun a => rk a % 256 ^ 8 == v) := fun M hM =>
      List.filter_congr fun x hx => by rw [Nat.mod_eq_of_lt (hM x hx)]
    rw [f L hL, f U hU]; exact h.2 v
end Go.Proofs.Qxb6603421a.SD
