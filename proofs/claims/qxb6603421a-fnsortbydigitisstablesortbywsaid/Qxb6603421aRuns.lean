import Derived.Test.Qxb6603421aStable
namespace Go.Proofs.Qxb6603421a.SD
/-! ### A bottom-up merge sort by runs. No Go in sight. -/
variable {α : Type} (rk : α → Nat) (d0 : α)
def seg (l : List α) (s n : Nat) : List α := (l.drop s).take n
theorem seg_len (l : List α) (s n : Nat) : (seg l s n).length = min n (l.length - s) := by simp [seg]
theorem seg_all (l : List α) (n : Nat) (h : l.length ≤ n) : seg l 0 n = l := by simp [seg, List.take_of_length_le h]
theorem seg_split (l : List α) (s m n : Nat) : seg l s (m + n) = seg l s m ++ seg l (s + m) n := by
  unfold seg
  rw [List.take_add, List.drop_drop]
theorem seg_at (l : List α) (s n i : Nat) (h : i < n) : (seg l s n)[i]? = l[s + i]? := by
  unfold seg; rw [List.getElem?_take, if_pos h, List.getElem?_drop]
/-- Every run of width w of a is the stable sort of the same run of U. -/
def Runs (w : Nat) (a U : List α) : Prop := a.length = U.length ∧ ∀ q, SS rk (seg a (q * w) w) (seg U (q * w) w)
theorem runs_one (U : List α) : Runs rk 1 U U := by
  refine ⟨rfl, fun q => ?_⟩
  have h := seg_len U (q * 1) 1
  match hs : seg U (q * 1) 1, h with
  | [], _ => exact ss_nil rk
  | [a], _ => exact ss_one rk a
  | _ :: _ :: _, h => simp at h; omega
theorem runs_done {w : Nat} {a U : List α} (h : Runs rk w a U) (hw : U.length ≤ w) : SS rk a U := by
  have := h.2 0
  rw [Nat.zero_mul, seg_all a w (by rw [h.1]; exact hw), seg_all U w hw] at this
  exact this
/-- The runs of b ahead of lo are merged. -/
def Merged (w lo : Nat) (b U : List α) : Prop := b.length = U.length ∧ ∀ q, q * (2 * w) < lo → SS rk (seg b (q * (2 * w)) (2 * w)) (seg U (q * (2 * w)) (2 * w))
theorem merged_zero (w : Nat) (b U : List α) (h : b.length = U.length) : Merged rk w 0 b U := ⟨h, fun q hq => by omega⟩
theorem merged_done {w lo : Nat} {b U : List α} (h : Merged rk w lo b U) (hlo : U.length ≤ lo) : Runs rk (2 * w) b U := by
  refine ⟨h.1, fun q => ?_⟩
  by_cases hq : q * (2 * w) < lo
  · exact h.2 q hq
  · have e1 : seg b (q * (2 * w)) (2 * w) = [] := by unfold seg; rw [List.drop_eq_nil_of_le (by rw [h.1]; omega)]; simp
    have e2 : seg U (q * (2 * w)) (2 * w) = [] := by unfold seg; rw [List.drop_eq_nil_of_le (by omega)]; simp
    rw [e1, e2]; exact ss_nil rk
/-- What the merge of one pair of runs holds: b from lo up to k is the merge's head; what is left is the merge of what is left. -/
structure Mid (a b0 b : List α) (lo mid hi i j k : Nat) : Prop where
  len : b.length = a.length
  hi_ : hi ≤ a.length
  i1 : lo ≤ i
  i2 : i ≤ mid
  j1 : mid ≤ j
  j2 : j ≤ hi
  kk : k = i + j - mid
  old : ∀ t, t < lo ∨ hi ≤ t → b[t]? = b0[t]?
  new : ∀ t, lo ≤ t → t < k → b[t]? = (merge rk (seg a lo (mid - lo)) (seg a mid (hi - mid)))[t - lo]?
  left : merge rk (seg a i (mid - i)) (seg a j (hi - j)) = (merge rk (seg a lo (mid - lo)) (seg a mid (hi - mid))).drop (k - lo)
theorem mid_start (a b : List α) (lo mid hi : Nat) (h : b.length = a.length) (h1 : lo ≤ mid) (h2 : mid ≤ hi) (h3 : hi ≤ a.length) : Mid rk a b b lo mid hi lo mid lo :=
  ⟨h, h3, Nat.le_refl _, h1, Nat.le_refl _, h2, by omega, fun _ _ => rfl, fun t a b => by omega, by simp⟩
theorem seg_cons (l : List α) (s n : Nat) (hs : s < l.length) (hn : 0 < n) : seg l s n = l.getD s d0 :: seg l (s + 1) (n - 1) := by
  unfold seg
  obtain ⟨m, rfl⟩ : ∃ m, n = m + 1 := ⟨n - 1, by omega⟩
  rw [List.drop_eq_getElem_cons hs, List.take_succ_cons]
  simp [hs]
theorem seg_nil (l : List α) (s : Nat) : seg l s 0 = [] := by simp [seg]
theorem mlen (X Y : List α) : (merge rk X Y).length = X.length + Y.length := by
  induction X generalizing Y with
  | nil => simp [merge]
  | cons x X ih =>
    induction Y with
    | nil => rw [merge_nil_right]; simp
    | cons y Y ih2 =>
      rw [merge_cons]; split
      · rw [List.length_cons, ih2]; simp; omega
      · rw [List.length_cons, ih]; simp; omega
theorem drop_head {M : List α} {n : Nat} {x : α} {r : List α} (h : M.drop n = x :: r) : M[n]? = some x ∧ M.drop (n + 1) = r := by
  constructor
  · have := congrArg (fun l => l[0]?) h
    simpa [List.getElem?_drop] using this
  · have := congrArg (fun l => l.drop 1) h
    simpa [List.drop_drop] using this
/-- The next one is a's i-th: the first run still has one, and the second has none left or a greater one at its head. -/
theorem Mid.left_ {a b0 b : List α} {lo mid hi i j k : Nat} (h : Mid rk a b0 b lo mid hi i j k) (hi' : i < mid) (hc : hi ≤ j ∨ ¬ rk (a.getD j d0) < rk (a.getD i d0)) :
    Mid rk a b0 (b.set k (a.getD i d0)) lo mid hi (i + 1) j (k + 1) := by
  obtain ⟨len, hh, i1, i2, j1, j2, kk, old, new, left⟩ := h
  have e1 := seg_cons d0 a i (mid - i) (by omega) (by omega)
  have hm : merge rk (seg a i (mid - i)) (seg a j (hi - j)) = a.getD i d0 :: merge rk (seg a (i + 1) (mid - (i + 1))) (seg a j (hi - j)) := by
    rw [e1, show mid - i - 1 = mid - (i + 1) from by omega]
    by_cases hj : hi ≤ j
    · rw [show hi - j = 0 from by omega, seg_nil, merge_nil_right, merge_nil_right]
    · have e2 := seg_cons d0 a j (hi - j) (by omega) (by omega)
      rw [e2, merge_cons, if_neg (by rcases hc with hc | hc; omega; exact hc)]
  rw [hm] at left
  have dh := drop_head left.symm
  refine ⟨by rw [List.length_set]; exact len, hh, by omega, by omega, j1, j2, by omega, fun t ht => ?_, fun t t1 t2 => ?_, ?_⟩
  · rw [List.getElem?_set_ne (by omega)]; exact old t ht
  · by_cases et : t = k
    · subst et
      rw [List.getElem?_set_self (by omega)]; exact dh.1.symm
    · rw [List.getElem?_set_ne (by omega)]; exact new t t1 (by omega)
  · rw [show k + 1 - lo = k - lo + 1 from by omega]; exact dh.2.symm
/-- The next one is a's j-th. -/
theorem Mid.right_ {a b0 b : List α} {lo mid hi i j k : Nat} (h : Mid rk a b0 b lo mid hi i j k) (hj' : j < hi) (hc : i = mid ∨ rk (a.getD j d0) < rk (a.getD i d0)) :
    Mid rk a b0 (b.set k (a.getD j d0)) lo mid hi i (j + 1) (k + 1) := by
  obtain ⟨len, hh, i1, i2, j1, j2, kk, old, new, left⟩ := h
  have e2 := seg_cons d0 a j (hi - j) (by omega) (by omega)
  have hm : merge rk (seg a i (mid - i)) (seg a j (hi - j)) = a.getD j d0 :: merge rk (seg a i (mid - i)) (seg a (j + 1) (hi - (j + 1))) := by
    rw [e2, show hi - j - 1 = hi - (j + 1) from by omega]
    by_cases hi' : i = mid
    · rw [show mid - i = 0 from by omega, seg_nil]; rfl
    · have e1 := seg_cons d0 a i (mid - i) (by omega) (by omega)
      rw [e1, merge_cons, if_pos (by rcases hc with hc | hc; omega; exact hc)]
  rw [hm] at left
  have dh := drop_head left.symm
  refine ⟨by rw [List.length_set]; exact len, hh, by omega, by omega, by omega, by omega, by omega, fun t ht => ?_, fun t t1 t2 => ?_, ?_⟩
  · rw [List.getElem?_set_ne (by omega)]; exact old t ht
  · by_cases et : t = k
    · subst et
      rw [List.getElem?_set_self (by omega)]; exact dh.1.symm
    · rw [List.getElem?_set_ne (by omega)]; exact new t t1 (by omega)
  · rw [show k + 1 - lo = k - lo + 1 from by omega]; exact dh.2.symm
/-- One pair of runs is merged. -/
theorem mid_done {w q : Nat} {a b0 b U : List α} {lo mid hi i j k : Nat} (ha : Runs rk w a U) (hb : Merged rk w lo b0 U) (h : Mid rk a b0 b lo mid hi i j k) (hk : hi ≤ k)
    (hlo : lo = q * (2 * w)) (hlt : lo < U.length) (hmid : mid = min (lo + w) U.length) (hhi : hi = min (lo + 2 * w) U.length) : Merged rk w (lo + 2 * w) b U := by
  obtain ⟨len, hh, i1, i2, j1, j2, kk, old, new, left⟩ := h
  have la := ha.1
  refine ⟨by rw [len]; exact la, fun p hp => ?_⟩
  have hw : 0 < w := by
    by_cases h0 : w = 0
    · subst h0; omega
    · omega
  by_cases hpq : p < q
  · have hle : (p + 1) * (2 * w) ≤ q * (2 * w) := Nat.mul_le_mul_right _ hpq
    rw [Nat.add_mul, Nat.one_mul] at hle
    have : seg b (p * (2 * w)) (2 * w) = seg b0 (p * (2 * w)) (2 * w) := by
      apply List.ext_getElem?
      intro t
      by_cases ht : t < 2 * w
      · rw [seg_at b _ _ t ht, seg_at b0 _ _ t ht]; exact old _ (by omega)
      · unfold seg; rw [List.getElem?_take, if_neg ht, List.getElem?_take, if_neg ht]
    rw [this]; exact hb.2 p (by omega)
  · have hpq' : p = q := by
      by_cases hgt : q < p
      · have hle : (q + 1) * (2 * w) ≤ p * (2 * w) := Nat.mul_le_mul_right _ hgt
        rw [Nat.add_mul, Nat.one_mul] at hle
        omega
      · omega
    subst hpq'
    have hik : i = mid := by omega
    have hjk : j = hi := by omega
    have s1 := ha.2 (2 * p)
    have s2 := ha.2 (2 * p + 1)
    have e1 : 2 * p * w = lo := by rw [hlo, Nat.mul_comm 2 p, Nat.mul_assoc]
    have e2 : (2 * p + 1) * w = lo + w := by rw [Nat.add_mul, e1, Nat.one_mul]
    rw [e1] at s1
    rw [e2] at s2
    have hs := SS.merge rk s1 s2
    have cut : ∀ l : List α, l.length = U.length → seg l lo w = seg l lo (mid - lo) ∧ seg l (lo + w) w = seg l mid (hi - mid) := by
      intro l hl
      by_cases c : lo + w ≤ U.length
      · have em : mid = lo + w := by omega
        refine ⟨by rw [em]; congr 1; omega, ?_⟩
        rw [em]
        by_cases c2 : lo + 2 * w ≤ U.length
        · congr 1; omega
        · unfold seg
          rw [List.take_of_length_le (by simp; omega), List.take_of_length_le (by simp; omega)]
      · have em : mid = U.length := by omega
        have eh : hi = U.length := by omega
        constructor
        · unfold seg
          rw [List.take_of_length_le (by simp; omega), List.take_of_length_le (by simp; omega)]
        · rw [em, eh]
          unfold seg
          rw [List.drop_eq_nil_of_le (by omega), List.drop_eq_nil_of_le (by omega)]; simp
    rw [(cut a la).1, (cut a la).2, ← seg_split] at hs
    rw [← hlo, show 2 * w = w + w from by omega]
    have eb : seg b lo (w + w) = merge rk (seg a lo (mid - lo)) (seg a mid (hi - mid)) := by
      have ml : (merge rk (seg a lo (mid - lo)) (seg a mid (hi - mid))).length = hi - lo := by
        rw [mlen, seg_len, seg_len]; omega
      apply List.ext_getElem?
      intro t
      by_cases ht : t < hi - lo
      · rw [seg_at b lo (w + w) t (by omega)]
        have := new (lo + t) (by omega) (by omega)
        rw [this, show lo + t - lo = t from by omega]
      · rw [List.getElem?_eq_none (by rw [seg_len]; omega), List.getElem?_eq_none (by omega)]
    rw [eb]; exact hs
end Go.Proofs.Qxb6603421a.SD
