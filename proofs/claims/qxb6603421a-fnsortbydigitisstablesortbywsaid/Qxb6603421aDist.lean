import Derived.Test.Qxb6603421aStable
namespace Go.Proofs.Qxb6603421a.SD
/-! ### A counting pass: where each key goes. No Go in sight. -/
variable {α : Type} (rk : α → Nat) (d0 : α)
def fil (b v : Nat) (l : List α) : List α := l.filter fun x => dg rk b x == v
def cnt (b v : Nat) (l : List α) : Nat := (fil rk b v l).length
def start (b : Nat) (L : List α) : Nat → Nat
  | 0 => 0
  | v + 1 => start b L v + cnt rk b v L
theorem fil_snoc (b v : Nat) (l : List α) (x : α) : fil rk b v (l ++ [x]) = fil rk b v l ++ if dg rk b x = v then [x] else [] := by
  unfold fil; rw [List.filter_append]
  by_cases h : dg rk b x = v <;> simp [h]
theorem cnt_snoc (b v : Nat) (l : List α) (x : α) : cnt rk b v (l ++ [x]) = cnt rk b v l + if dg rk b x = v then 1 else 0 := by
  unfold cnt; rw [fil_snoc]; split <;> simp
theorem cnt_take (b v : Nat) (L : List α) (i : Nat) : cnt rk b v (L.take i) ≤ cnt rk b v L := by
  have : L = L.take i ++ L.drop i := (List.take_append_drop i L).symm
  have e : cnt rk b v L = cnt rk b v (L.take i) + cnt rk b v (L.drop i) := by
    conv => lhs; rw [this]
    unfold cnt fil; rw [List.filter_append, List.length_append]
  omega
theorem cnt_take_lt (b : Nat) (L : List α) (i : Nat) (hi : i < L.length) : cnt rk b (dg rk b L[i]) (L.take i) < cnt rk b (dg rk b L[i]) L := by
  have h1 := cnt_take rk b (dg rk b L[i]) L (i + 1)
  rw [List.take_succ_eq_append_getElem hi, cnt_snoc, if_pos rfl] at h1
  omega
theorem start_mono (b : Nat) (L : List α) (u v : Nat) (h : u ≤ v) : start rk b L u ≤ start rk b L v := by
  induction v with
  | zero => rw [show u = 0 from by omega]; exact Nat.le_refl _
  | succ v ih =>
    by_cases e : u = v + 1
    · rw [e]; exact Nat.le_refl _
    · have := ih (by omega); simp only [start]; omega
theorem flat_len (b : Nat) (L : List α) (m : Nat) : ((List.range m).flatMap fun v => fil rk b v L).length = start rk b L m := by
  induction m with
  | zero => rfl
  | succ m ih => rw [List.range_succ, List.flatMap_append, List.length_append, ih]; simp [start, cnt]
theorem cnt_cons (b v : Nat) (x : α) (l : List α) : cnt rk b v (x :: l) = cnt rk b v l + if dg rk b x = v then 1 else 0 := by
  unfold cnt fil
  by_cases h : dg rk b x = v
  · rw [List.filter_cons_of_pos (by simpa using h), if_pos h]; rfl
  · rw [List.filter_cons_of_neg (by simpa using h), if_neg h]; rfl
theorem start_cons (b : Nat) (x : α) (L : List α) (m : Nat) : start rk b (x :: L) m = start rk b L m + if dg rk b x < m then 1 else 0 := by
  induction m with
  | zero => simp [start]
  | succ m ih =>
    rw [start, start, ih, cnt_cons]
    by_cases h1 : dg rk b x < m
    · rw [if_pos h1, if_neg (by omega), if_pos (by omega)]; omega
    · by_cases h2 : dg rk b x = m
      · rw [if_neg h1, if_pos h2, if_pos (by omega)]; omega
      · rw [if_neg h1, if_neg h2, if_neg (by omega)]; omega
theorem start_all (b : Nat) (L : List α) : start rk b L 256 = L.length := by
  induction L with
  | nil =>
    have : ∀ m, start rk b ([] : List α) m = 0 := fun m => by
      induction m with
      | zero => rfl
      | succ m ih => rw [start, ih]; rfl
    exact this 256
  | cons x L ih => rw [start_cons, ih, if_pos (dg_lt rk b x)]; rfl
theorem pass_len (b : Nat) (L : List α) : (pass rk b L).length = L.length := by
  rw [← start_all rk b L, ← flat_len rk b L 256]; rfl
theorem start_find (b : Nat) (L : List α) (m p : Nat) (h : p < start rk b L m) : ∃ v t, v < m ∧ t < cnt rk b v L ∧ p = start rk b L v + t := by
  induction m with
  | zero => simp [start] at h
  | succ m ih =>
    by_cases h2 : p < start rk b L m
    · obtain ⟨v, t, a, c, e⟩ := ih h2
      exact ⟨v, t, by omega, c, e⟩
    · exact ⟨m, p - start rk b L m, by omega, by rw [start] at h; omega, by omega⟩
theorem flat_at (b : Nat) (L : List α) (m v t : Nat) (hv : v < m) (ht : t < cnt rk b v L) : ((List.range m).flatMap fun v => fil rk b v L)[start rk b L v + t]? = (fil rk b v L)[t]? := by
  induction m with
  | zero => omega
  | succ m ih =>
    rw [List.range_succ, List.flatMap_append]
    by_cases e : v = m
    · subst e
      rw [List.getElem?_append_right (by rw [flat_len]; omega), flat_len, show start rk b L v + t - start rk b L v = t from by omega]
      simp
    · have h1 := start_mono rk b L (v + 1) m (by omega)
      rw [start] at h1
      rw [List.getElem?_append_left (by rw [flat_len]; omega)]
      exact ih (by omega)
/-- D after i keys of L have been laid into it. -/
structure Dist (b : Nat) (L D : List α) (i : Nat) : Prop where
  len : D.length = L.length
  at_ : ∀ v, v < 256 → ∀ t, t < cnt rk b v (L.take i) → D[start rk b L v + t]? = (fil rk b v (L.take i))[t]?
theorem dist_zero (b : Nat) (L D : List α) (h : D.length = L.length) : Dist rk b L D 0 := ⟨h, fun v _ t ht => by simp [cnt, fil] at ht⟩
theorem place_lt (b : Nat) (L : List α) (v t : Nat) (hv : v < 256) (ht : t < cnt rk b v L) : start rk b L v + t < L.length := by
  have := start_mono rk b L (v + 1) 256 (by omega)
  rw [start_all, start] at this
  omega
theorem place_inj (b : Nat) (L : List α) (u v t s : Nat) (ht : t < cnt rk b u L) (hs : s < cnt rk b v L) (h : start rk b L u + t = start rk b L v + s) : u = v ∧ t = s := by
  have hu : ∀ a c, a < c → start rk b L a + cnt rk b a L ≤ start rk b L c := fun a c hac => by
    have := start_mono rk b L (a + 1) c (by omega); rw [start] at this; exact this
  by_cases e : u = v
  · subst e; exact ⟨rfl, by omega⟩
  · rcases Nat.lt_or_gt_of_ne e with h1 | h1
    · have := hu u v h1; omega
    · have := hu v u h1; omega
theorem Dist.next {b : Nat} {L D : List α} {i : Nat} (h : Dist rk b L D i) (hi : i < L.length) :
    Dist rk b L (D.set (start rk b L (dg rk b L[i]) + cnt rk b (dg rk b L[i]) (L.take i)) L[i]) (i + 1) := by
  refine ⟨by rw [List.length_set]; exact h.len, fun v hv t ht => ?_⟩
  have hc := cnt_take_lt rk b L i hi
  rw [List.take_succ_eq_append_getElem hi, cnt_snoc] at ht
  rw [List.take_succ_eq_append_getElem hi, fil_snoc]
  by_cases e : dg rk b L[i] = v
  · rw [if_pos e] at ht ⊢
    by_cases et : t = cnt rk b v (L.take i)
    · subst et
      rw [e] at hc ⊢
      rw [List.getElem?_set_self (by rw [h.len]; exact place_lt rk b L v _ hv hc)]
      rw [List.getElem?_append_right (by unfold cnt; omega)]
      simp [cnt]
    · rw [List.getElem?_set_ne (fun x => et (by
        have hct := cnt_take rk b v L i
        have := (place_inj rk b L (dg rk b L[i]) v _ t hc (by omega) x).2
        rw [e] at this; omega))]
      rw [List.getElem?_append_left (by unfold cnt at ht et; omega)]
      exact h.at_ v hv t (by omega)
  · rw [if_neg e] at ht ⊢
    have hct := cnt_take rk b v L i
    rw [List.getElem?_set_ne (fun x => e (place_inj rk b L (dg rk b L[i]) v _ t hc (by omega) x).1), List.append_nil]
    exact h.at_ v hv t (by omega)
theorem Dist.done {b : Nat} {L D : List α} (h : Dist rk b L D L.length) : D = pass rk b L := by
  apply List.ext_getElem?
  intro p
  by_cases hp : p < L.length
  · obtain ⟨v, t, hv, ht, rfl⟩ := start_find rk b L 256 p (by rw [start_all]; exact hp)
    have := h.at_ v hv t (by rw [List.take_length]; exact ht)
    rw [this, List.take_length]
    exact (flat_at rk b L 256 v t hv ht).symm
  · rw [List.getElem?_eq_none (by rw [h.len]; omega), List.getElem?_eq_none (by rw [pass_len]; omega)]
end Go.Proofs.Qxb6603421a.SD
