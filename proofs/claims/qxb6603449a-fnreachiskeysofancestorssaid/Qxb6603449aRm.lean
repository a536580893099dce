import Derived.Test.Qxb6603449aRk
namespace Go.Proofs.Qxb6603449a.BL
open Go.RowKit Go.ChangeMaps Go.MapKept
set_option linter.unusedVariables false
set_option linter.unusedSimpArgs false

/-! ### The least number -/
theorem least (p : Nat → Prop) (h : ∃ m, p m) : ∃ m, p m ∧ ∀ k, p k → m ≤ k := by
  obtain ⟨m, hm⟩ := h
  induction m using Nat.strongRecOn with
  | ind m ih =>
    by_cases c : ∃ k, k < m ∧ p k
    · obtain ⟨k, h1, h2⟩ := c
      exact ih k h1 h2
    · exact ⟨m, hm, fun k hk => by
        by_cases d : k < m
        · exact absurd ⟨k, d, hk⟩ c
        · omega⟩
open Classical in
noncomputable def lm (p : Nat → Prop) : Nat := if h : ∃ m, p m then Classical.choose (least p h) else 0
theorem lm_spec {p : Nat → Prop} (h : ∃ m, p m) : p (lm p) := by
  unfold lm; rw [dif_pos h]; exact (Classical.choose_spec (least p h)).1
theorem lm_le {p : Nat → Prop} {k : Nat} (h : p k) : lm p ≤ k := by
  unfold lm; rw [dif_pos ⟨k, h⟩]; exact (Classical.choose_spec (least p ⟨k, h⟩)).2 k h

/-! ### reach, plainly -/
/-- What is given: P the groups of a name, κ the keys, name; no loop; the keys distinct. -/
structure Gvn (P : St → List St) (κ : St → Option Int) (name : St) (rk : St → Nat) : Prop where
  acy : ∀ c, Up P name c → ∀ y ∈ P c, rk c < rk y
  inj : ∀ c d z, Up P name c → Up P name d → κ c = some z → κ d = some z → c = d
/-- The keys of y and of all above it, each once. -/
def Full (P : St → List St) (κ : St → Option Int) (y : St) (Z : List Int) : Prop := Z.Nodup ∧ ∀ z, z ∈ Z ↔ ∃ u, Up P y u ∧ κ u = some z
def Fok (P : St → List St) (κ : St → Option Int) (name : St) (F : St → Option (List Int)) : Prop := ∀ y Z, F y = some Z → Up P name y ∧ Full P κ y Z
def fput (F : St → Option (List Int)) (c : St) (Z : List Int) : St → Option (List Int) := fun y => if y = c then some Z else F y
/-- The path: the last first. nx: the name above the last one, if it is on its way. -/
def Pth (P : St → List St) (F : St → Option (List Int)) (name : St) : Option St → List (St × List St) → Prop
  | nx, [] => nx = some name ∨ nx = none
  | nx, q :: rest => Up P name q.1 ∧ F q.1 = none ∧ (∃ pre, P q.1 = pre ++ q.2 ∧ ∀ p ∈ pre, F p ≠ none ∨ nx = some p) ∧ (∀ p, nx = some p → p ∈ P q.1) ∧ Pth P F name (some q.1) rest
theorem rk_up {P : St → List St} {κ : St → Option Int} {name : St} {rk : St → Nat} (G : Gvn P κ name rk) {x y : St} (h : Up P x y) (hx : Up P name x) : rk x ≤ rk y := by
  induction h with
  | refl => omega
  | step hp _ ih => have := G.acy _ hx _ hp; have := ih (hx.snoc hp); omega
theorem gz_full {P : St → List St} {κ : St → Option Int} {name : St} {rk : St → Nat} {F : St → Option (List Int)} {c : St} {Z : List Int} (G : Gvn P κ name rk) (hF : Fok P κ name F) (hc : Up P name c) (hall : ∀ p ∈ P c, F p ≠ none) (h : Gz P κ F c Z) : Full P κ c Z := by
  refine ⟨h.2 fun p hp Zp hz => ?_, fun z => ?_⟩
  · obtain ⟨h1, h2, h3⟩ := hF p Zp hz
    refine ⟨h2, fun z hk hm => ?_⟩
    obtain ⟨u, hu, hku⟩ := (h3 z).1 hm
    have e := G.inj c u z hc (h1.trans hu) hk hku
    have r1 := rk_up G hu h1
    have r2 := G.acy c hc p hp
    rw [← e] at r1
    omega
  · rw [h.1 z]
    constructor
    · rintro (k | ⟨p, hp, Zp, hz, hm⟩)
      · exact ⟨c, Up.refl c, k⟩
      · obtain ⟨u, hu, hku⟩ := ((hF p Zp hz).2.2 z).1 hm
        exact ⟨u, Up.step hp hu, hku⟩
    · rintro ⟨u, hu, hku⟩
      cases hu with
      | refl => exact Or.inl hku
      | step hp hu2 =>
        rename_i p
        cases hfp : F p with
        | none => exact absurd hfp (hall p hp)
        | some Zp => exact Or.inr ⟨p, hp, Zp, hfp, ((hF p Zp hfp).2.2 z).2 ⟨u, hu2, hku⟩⟩
theorem fok_put {P : St → List St} {κ : St → Option Int} {name : St} {F : St → Option (List Int)} {c : St} {Z : List Int} (hF : Fok P κ name F) (hc : Up P name c) (h : Full P κ c Z) : Fok P κ name (fput F c Z) := fun y Y hy => by
  unfold fput at hy
  by_cases e : y = c
  · rw [if_pos e] at hy; injection hy with hy; rw [e, ← hy]; exact ⟨hc, h⟩
  · rw [if_neg e] at hy; exact hF y Y hy
section
variable {P : St → List St} {κ : St → Option Int} {name : St} {rk : St → Nat} {F : St → Option (List Int)}
/-- All names further down the path have a smaller rank. -/
theorem pth_rank (G : Gvn P κ name rk) {x : St} {l : List (St × List St)} (h : Pth P F name (some x) l) : ∀ q ∈ l, rk q.1 < rk x := by
  induction l generalizing x with
  | nil => simp
  | cons q l ih =>
    obtain ⟨h1, h2, h3, h4, h5⟩ := h
    have e := G.acy q.1 h1 x (h4 x rfl)
    intro r hr
    rcases List.mem_cons.1 hr with c | c
    · rw [c]; exact e
    · have := ih h5 r c; omega
theorem pth_fput {x : St} {nx : Option St} {Z : List Int} {l : List (St × List St)} (hx : ∀ q ∈ l, q.1 ≠ x) (h : Pth P F name nx l) : Pth P (fput F x Z) name nx l := by
  induction l generalizing nx with
  | nil => exact h
  | cons q l ih =>
    obtain ⟨h1, h2, ⟨pre, h3, h4⟩, h5, h6⟩ := h
    refine ⟨h1, ?_, ⟨pre, h3, fun p hp => ?_⟩, h5, ih (fun r hr => hx r (List.mem_cons_of_mem _ hr)) h6⟩
    · unfold fput; rw [if_neg (hx q (by simp))]; exact h2
    · rcases h4 p hp with c | c
      · left; unfold fput
        by_cases e : p = x
        · rw [if_pos e]; simp
        · rw [if_neg e]; exact c
      · exact Or.inr c
/-- A step up to a name that has been reached. -/
theorem pth_old {c g : St} {left : List St} {l : List (St × List St)} (h : Pth P F name none ((c, g :: left) :: l)) (hg : F g ≠ none) : Pth P F name none ((c, left) :: l) := by
  obtain ⟨h1, h2, ⟨pre, h3, h4⟩, h5, h6⟩ := h
  exact ⟨h1, h2, ⟨pre ++ [g], by rw [h3]; simp, fun p hp => by
    rcases List.mem_append.1 hp with k | k
    · exact h4 p k
    · rw [List.mem_singleton] at k; rw [k]; exact Or.inl hg⟩, (fun p hp => by cases hp), h6⟩
theorem pth_new {c g : St} {left : List St} {l : List (St × List St)} (h : Pth P F name none ((c, g :: left) :: l)) (hg : F g = none) : Pth P F name none ((g, P g) :: (c, left) :: l) := by
  obtain ⟨h1, h2, ⟨pre, h3, h4⟩, h5, h6⟩ := h
  have hm : g ∈ P c := by rw [h3]; simp
  refine ⟨h1.snoc hm, hg, ⟨[], by simp, by simp⟩, (fun p hp => by cases hp), h1, h2, ⟨pre ++ [g], by rw [h3]; simp, fun p hp => ?_⟩, (fun p hp => by injection hp with hp; rw [← hp]; exact hm), h6⟩
  rcases List.mem_append.1 hp with k | k
  · rcases h4 p k with q | q
    · exact Or.inl q
    · cases q
  · rw [List.mem_singleton] at k; rw [k]; exact Or.inr rfl
theorem pth_top {c : St} {l : List (St × List St)} (h : Pth P F name none ((c, []) :: l)) : Up P name c ∧ (∀ p ∈ P c, F p ≠ none) := by
  obtain ⟨h1, h2, ⟨pre, h3, h4⟩, _⟩ := h
  refine ⟨h1, fun p hp => ?_⟩
  rw [h3, List.append_nil] at hp
  rcases h4 p hp with q | q
  · exact q
  · cases q
theorem pth_pop (G : Gvn P κ name rk) {c : St} {l : List (St × List St)} {Z : List Int} (h : Pth P F name none ((c, []) :: l)) : Pth P (fput F c Z) name none l ∧ (l = [] → c = name) := by
  obtain ⟨h1, h2, h3, h4, h5⟩ := h
  have hr := pth_rank G h5
  have hf := pth_fput (Z := Z) (x := c) (fun q hq e => by have := hr q hq; rw [e] at this; exact absurd this (Nat.lt_irrefl _)) h5
  refine ⟨?_, fun e => ?_⟩
  · cases l with
    | nil => exact Or.inr rfl
    | cons q l =>
      obtain ⟨k1, k2, ⟨pre, k3, k4⟩, k5, k6⟩ := hf
      refine ⟨k1, k2, ⟨pre, k3, fun p hp => ?_⟩, (fun p hp => by cases hp), k6⟩
      rcases k4 p hp with d | d
      · exact Or.inl d
      · injection d with d
        left; rw [← d]; unfold fput; rw [if_pos rfl]; simp
  · rw [e] at h5
    rcases h5 with d | d
    · injection d
    · cases d
theorem pth_start (h : F name = none) : Pth P F name none [(name, P name)] :=
  ⟨Up.refl _, h, ⟨[], by simp, by simp⟩, (fun p hp => by cases hp), Or.inl rfl⟩
/-! the measure -/
def fresh (F : St → Option (List Int)) (l : List (St × List St)) (y : St) : Bool := (F y).isNone && !(l.any fun q => q.1 == y)
def wgt (P : St → List St) (F : St → Option (List Int)) (l : List (St × List St)) : List St → Nat
  | [] => 0
  | y :: Nd => (if fresh F l y then (P y).length + 2 else 0) + wgt P F l Nd
def plen : List (St × List St) → Nat
  | [] => 0
  | q :: l => q.2.length + 1 + plen l
theorem wgt_le {F' : St → Option (List Int)} {l l' : List (St × List St)} (h : ∀ y, fresh F' l' y = true → fresh F l y = true) (Nd : List St) : wgt P F' l' Nd ≤ wgt P F l Nd := by
  induction Nd with
  | nil => exact Nat.le_refl _
  | cons y Nd ih =>
    simp only [wgt]
    by_cases c : fresh F' l' y = true
    · rw [if_pos c, if_pos (h y c)]; omega
    · rw [if_neg c]; omega
theorem wgt_lt {F' : St → Option (List Int)} {l l' : List (St × List St)} (h : ∀ y, fresh F' l' y = true → fresh F l y = true) {g : St} (h1 : fresh F l g = true) (h2 : fresh F' l' g = false) {Nd : List St} (hg : g ∈ Nd) : wgt P F' l' Nd + ((P g).length + 2) ≤ wgt P F l Nd := by
  induction Nd with
  | nil => simp at hg
  | cons y Nd ih =>
    simp only [wgt]
    rcases List.mem_cons.1 hg with c | c
    · rw [← c, if_pos h1, h2]
      have := wgt_le (P := P) h Nd
      simp; omega
    · have := ih c
      by_cases d : fresh F' l' y = true
      · rw [if_pos d, if_pos (h y d)]; omega
      · rw [if_neg d]; omega
theorem fresh_iff (F : St → Option (List Int)) (l : List (St × List St)) (y : St) : fresh F l y = true ↔ F y = none ∧ ∀ q ∈ l, q.1 ≠ y := by
  unfold fresh
  simp
theorem m_old {c g : St} {left : List St} {l : List (St × List St)} (Nd : List St) : wgt P F ((c, left) :: l) Nd + plen ((c, left) :: l) < wgt P F ((c, g :: left) :: l) Nd + plen ((c, g :: left) :: l) := by
  have := wgt_le (P := P) (F := F) (F' := F) (l := (c, g :: left) :: l) (l' := (c, left) :: l) (fun y hy => by
    rw [fresh_iff] at hy ⊢
    refine ⟨hy.1, fun q hq => ?_⟩
    rcases List.mem_cons.1 hq with e | e
    · rw [e]; exact hy.2 (c, left) (by simp)
    · exact hy.2 q (List.mem_cons_of_mem _ e)) Nd
  simp only [plen, List.length_cons]
  omega
theorem m_new (G : Gvn P κ name rk) {c g : St} {left : List St} {l : List (St × List St)} {Nd : List St} (hN : ∀ y, Up P name y → y ∈ Nd) (h : Pth P F name none ((c, g :: left) :: l)) (hg : F g = none) : wgt P F ((g, P g) :: (c, left) :: l) Nd + plen ((g, P g) :: (c, left) :: l) < wgt P F ((c, g :: left) :: l) Nd + plen ((c, g :: left) :: l) := by
  have hn := pth_new h hg
  have hr := pth_rank G hn.2.2.2.2
  have := wgt_lt (P := P) (F := F) (F' := F) (l := (c, g :: left) :: l) (l' := (g, P g) :: (c, left) :: l) (fun y hy => by
    rw [fresh_iff] at hy ⊢
    refine ⟨hy.1, fun q hq => ?_⟩
    rcases List.mem_cons.1 hq with e | e
    · rw [e]; exact hy.2 (c, left) (by simp)
    · exact hy.2 q (List.mem_cons_of_mem _ (List.mem_cons_of_mem _ e))) (g := g) (by
      rw [fresh_iff]
      refine ⟨hg, fun q hq e => ?_⟩
      rcases List.mem_cons.1 hq with d | d
      · have := hr (c, left) (by simp)
        rw [d] at e
        simp only at e
        rw [← e] at this
        simp at this
      · have := hr q (List.mem_cons_of_mem _ d); rw [e] at this; exact absurd this (Nat.lt_irrefl _)) (by
      cases hh : fresh F ((g, P g) :: (c, left) :: l) g with
      | false => rfl
      | true => exact absurd rfl (((fresh_iff _ _ _).1 hh).2 (g, P g) (by simp))) (Nd := Nd) (hN g hn.1)
  simp only [plen, List.length_cons]
  omega
theorem m_pop {c : St} {l : List (St × List St)} {Z : List Int} (Nd : List St) : wgt P (fput F c Z) l Nd + plen l < wgt P F ((c, []) :: l) Nd + plen ((c, []) :: l) := by
  have := wgt_le (P := P) (F := F) (F' := fput F c Z) (l := (c, []) :: l) (l' := l) (fun y hy => by
    rw [fresh_iff] at hy ⊢
    obtain ⟨h1, h2⟩ := hy
    unfold fput at h1
    by_cases e : y = c
    · rw [if_pos e] at h1; cases h1
    · rw [if_neg e] at h1
      refine ⟨h1, fun q hq => ?_⟩
      rcases List.mem_cons.1 hq with d | d
      · rw [d]; exact fun k => e k.symm
      · exact h2 q d) Nd
  simp only [plen, List.length_nil]
  omega
theorem pth_plen {nx : Option St} {l : List (St × List St)} (G : Gvn P κ name rk) (h : Pth P F name nx l) : (l.map (·.1)).Nodup ∧ ∀ y ∈ l.map (·.1), Up P name y := by
  induction l generalizing nx with
  | nil => simp
  | cons q l ih =>
    obtain ⟨h1, _, _, _, h6⟩ := h
    have hr := pth_rank G h6
    obtain ⟨i1, i2⟩ := ih h6
    refine ⟨?_, fun y hy => ?_⟩
    · rw [List.map_cons, List.nodup_cons]
      refine ⟨fun hm => ?_, i1⟩
      obtain ⟨r, hr1, hr2⟩ := List.mem_map.1 hm
      have := hr r hr1
      rw [hr2] at this; omega
    · rw [List.map_cons] at hy
      rcases List.mem_cons.1 hy with e | e
      · rw [e]; exact h1
      · exact i2 y e
end
end Go.Proofs.Qxb6603449a.BL
