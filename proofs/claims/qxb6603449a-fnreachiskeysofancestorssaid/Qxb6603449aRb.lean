import Derived.Test.Qxb6603449aRa
namespace Go.Proofs.Qxb6603449a.BL
open Go.RowKit Go.ChangeMaps Go.MapKept
set_option linter.unusedVariables false
set_option linter.unusedSimpArgs false

/-! ### Edges; a map of rows -/
abbrev Ed := List (St × St)
def ek (E : Ed) (i : Nat) : St := (E.getD i (ByteArray.empty, ByteArray.empty)).1
def eg (E : Ed) (i : Nat) : St := (E.getD i (ByteArray.empty, ByteArray.empty)).2
def ix (E : Ed) (k : Nat) (x : St) : List Nat := (List.range k).filter fun i => ek E i == x
theorem ix_zero (E : Ed) (x : St) : ix E 0 x = [] := rfl
theorem ix_succ (E : Ed) (k : Nat) (x : St) : ix E (k + 1) x = if x = ek E k then ix E k x ++ [k] else ix E k x := by
  unfold ix
  rw [List.range_succ, List.filter_append]
  by_cases e : x = ek E k
  · rw [if_pos e]; simp [e]
  · rw [if_neg e]
    have e' : (ek E k == x) = false := by simpa using fun c => e c.symm
    simp [e']
theorem ix_len (E : Ed) (k : Nat) (x : St) : (ix E k x).length ≤ k := by
  unfold ix
  have := List.length_filter_le (fun i => ek E i == x) (List.range k)
  simpa using this
def par (E : Ed) (x : St) : List St := (ix E E.length x).map (eg E)
def EdRd (w : World) (ao : Option Addr) (E : Ed) : Prop := E = [] ∨ ∃ b off, ao = some ⟨b, off, none⟩ ∧ b < w.heap.size ∧ ∀ i, i < E.length → w.cell? ⟨b, off + i * 2, none⟩ = some (.string (ek E i)) ∧ w.cell? ⟨b, off + i * 2 + 1, none⟩ = some (.string (eg E i))
theorem EdRd.on {w w' : World} {ao : Option Addr} {E : Ed} (h : EdRd w ao E) (hb : Below w.heap.size w w') : EdRd w' ao E := by
  rcases h with h | ⟨b, off, e, hlt, hc⟩
  · exact Or.inl h
  · exact Or.inr ⟨b, off, e, by have := hb.size; omega, fun i hi => ⟨(hb.cell (p := ⟨b, _, none⟩) hlt).trans (hc i hi).1, (hb.cell (p := ⟨b, _, none⟩) hlt).trans (hc i hi).2⟩⟩
theorem EdRd.at_ {w : World} {ao : Option Addr} {E : Ed} (h : EdRd w ao E) {i : Nat} (hi : i < E.length) : ∃ b off, ao = some ⟨b, off, none⟩ ∧ b < w.heap.size ∧ w.cell? ⟨b, off + i * 2, none⟩ = some (.string (ek E i)) ∧ w.cell? ⟨b, off + i * 2 + 1, none⟩ = some (.string (eg E i)) := by
  rcases h with h | ⟨b, off, e, hlt, hc⟩
  · rw [h] at hi; simp at hi
  · exact ⟨b, off, e, hlt, hc i hi⟩
/-- Numbers that can be read; the block is of numbers. -/
def IntRd (w : World) (ao : Option Addr) (Z : List Int) : Prop := Z = [] ∨ ∃ b off, ao = some ⟨b, off, none⟩ ∧ b < w.heap.size ∧ ∀ i, i < Z.length → w.cell? ⟨b, off + i, none⟩ = some (.int .i32 (Z.getD i 0))
theorem IntRd.on {w w' : World} {ao : Option Addr} {Z : List Int} (h : IntRd w ao Z) (hb : Below w.heap.size w w') : IntRd w' ao Z := by
  rcases h with h | ⟨b, off, e, hlt, hc⟩
  · exact Or.inl h
  · exact Or.inr ⟨b, off, e, by have := hb.size; omega, fun i hi => (hb.cell (p := ⟨b, _, none⟩) hlt).trans (hc i hi)⟩
theorem IntRd.at_ {w : World} {ao : Option Addr} {Z : List Int} (h : IntRd w ao Z) {i : Nat} (hi : i < Z.length) : ∃ b off, ao = some ⟨b, off, none⟩ ∧ b < w.heap.size ∧ w.cell? ⟨b, off + i, none⟩ = some (.int .i32 (Z.getD i 0)) := by
  rcases h with h | ⟨b, off, e, hlt, hc⟩
  · rw [h] at hi; simp at hi
  · exact ⟨b, off, e, hlt, hc i hi⟩
/-- A map of rows: at the key x the cells of the numbers I x. -/
structure Gm (w : World) (b : Nat) (e : TypeId) (sz : Nat) (C : Nat → List Value) (I : St → List Nat) (L : List (St × Value)) : Prop where
  m : atM w b L
  no : ∀ x, get L x = none → I x = []
  yes : ∀ x v, get L x = some v → I x ≠ [] ∧ w.ownsRow (b + 1) e sz v (I x).length ((I x).flatMap C)
  apart : ∀ x y v u, x ≠ y → get L x = some v → get L y = some u → v.ownBlock ≠ u.ownBlock
theorem own_some {w : World} {base e sz n : Nat} {v : Value} {xs : List Value} (h : w.ownsRow base e sz v n xs) (hn : n ≠ 0) : ∃ g cap, v = .slice (some ⟨g, 0, none⟩) n cap ∧ base ≤ g ∧ g < w.heap.size ∧ n ≤ cap := by
  rcases h.2 with ⟨_, c⟩ | ⟨g, cap, cur, e1, h1, h2, h3, _⟩
  · exact absurd c hn
  · refine ⟨g, cap, e1, h1, ?_, h3⟩
    by_cases hx : g < w.heap.size
    · exact hx
    · rw [Array.getElem?_eq_none (by omega)] at h2; cases h2
section
variable {w w' wq : World} {b e sz : Nat} {C : Nat → List Value} {I : St → List Nat} {L : List (St × Value)}
theorem Gm.blk (h : Gm w b e sz C I L) {x : St} {v : Value} (hv : get L x = some v) : ∃ g, v.ownBlock = some g ∧ b < g ∧ g < w.heap.size := by
  obtain ⟨h1, h2⟩ := h.yes x v hv
  obtain ⟨g, cap, e1, h3, h4, _⟩ := own_some h2 (fun c => h1 (List.eq_nil_of_length_eq_zero c))
  exact ⟨g, by rw [e1]; rfl, h3, h4⟩
def atv (L : List (St × Value)) (x : St) : Value := (get L x).getD (.slice none 0 0)
theorem Gm.own (h : Gm w b e sz C I L) (x : St) : w.ownsRow (b + 1) e sz (atv L x) (I x).length ((I x).flatMap C) := by
  unfold atv
  cases hg : get L x with
  | none => rw [h.no x hg]; exact World.ownsRow_nil _ _ _ _
  | some v => exact (h.yes x v hg).2
theorem Gm.alloc (h : Gm w b e sz C I L) (o : Obj) : Gm (w.alloc o) b e sz C I L :=
  ⟨atM_alloc h.m o, h.no, fun x v hv => ⟨(h.yes x v hv).1, (h.yes x v hv).2.alloc o⟩, h.apart⟩
theorem Gm.kept (h : Gm w b e sz C I L) {row : Option Nat} (hg : w.grownBy w' row) (hr : ∀ k, row = some k → w.heap.size ≤ k ∨ k < b) : Gm w' b e sz C I L := by
  refine ⟨atM_grown h.m hg (fun c => ?_), h.no, fun x v hv => ⟨(h.yes x v hv).1, (h.yes x v hv).2.kept hg ?_⟩, h.apart⟩
  · have := hr b c; have := atM_lt h.m; omega
  · obtain ⟨g, h1, h2, h3⟩ := h.blk hv
    right
    rw [h1]
    intro c
    have := hr g c.symm; omega
theorem Gm.push (h : Gm w b e sz C I L) (x : St) (i g n cap : Nat) (hn : n = (I x).length + 1) (hg : w.grownBy w' (atv L x).ownBlock) (hown : w'.ownsRow (b + 1) e sz (.slice (some ⟨g, 0, none⟩) n cap) n ((I x).flatMap C ++ C i)) (hat : (atv L x).ownBlock = some g ∨ w.heap.size ≤ g) :
    Gm (putM w' b (putL L x (.slice (some ⟨g, 0, none⟩) n cap))) b e sz C (fun y => if y = x then I x ++ [i] else I y) (putL L x (.slice (some ⟨g, 0, none⟩) n cap)) := by
  have hbl := atM_lt h.m
  have hsz := hg.size
  have key : ∀ y u, y ≠ x → get L y = some u → (atv L x).ownBlock ≠ u.ownBlock ∧ u.ownBlock ≠ some g := by
    intro y u hy hu
    obtain ⟨gu, e1, e2, e3⟩ := h.blk hu
    cases hx : get L x with
    | none =>
      have e0 : (atv L x).ownBlock = none := by unfold atv; rw [hx]; rfl
      refine ⟨by rw [e0, e1]; simp, ?_⟩
      rcases hat with c | c
      · rw [e0] at c; cases c
      · rw [e1]; simp; omega
    | some v =>
      have e0 : atv L x = v := by unfold atv; rw [hx]; rfl
      have ap := h.apart x y v u (fun c => hy c.symm) hx hu
      refine ⟨by rw [e0]; exact ap, ?_⟩
      rcases hat with c | c
      · rw [e0] at c; rw [← c]; exact fun h => ap h.symm
      · rw [e1]; simp; omega
  have hgb : b < g := by
    obtain ⟨g', cap', e1, h1, _⟩ := own_some hown (by omega)
    injection e1 with e1; injection e1 with e1; injection e1 with e1
    omega
  refine ⟨putM_same (by omega) _, ?_, ?_, ?_⟩
  · intro y hy
    rw [get_putL] at hy
    by_cases c : x = y
    · rw [if_pos c] at hy; cases hy
    · rw [if_neg c] at hy
      rw [if_neg (fun h => c h.symm)]; exact h.no y hy
  · intro y u hu
    rw [get_putL] at hu
    by_cases c : x = y
    · rw [if_pos c] at hu
      injection hu with hu
      rw [if_pos c.symm, ← hu]
      refine ⟨by simp, ?_⟩
      have := hown.kept (putM_grown w' b (putL L x (.slice (some ⟨g, 0, none⟩) n cap))) (Or.inr (by simp [Value.ownBlock]; omega))
      rw [List.flatMap_append, List.length_append]
      simpa [← hn] using this
    · rw [if_neg c] at hu
      rw [if_neg (fun h => c h.symm)]
      obtain ⟨k1, k2⟩ := key y u (fun h => c h.symm) hu
      obtain ⟨gu, e1, e2, e3⟩ := h.blk hu
      exact ⟨(h.yes y u hu).1, ((h.yes y u hu).2.kept hg (Or.inr (fun q => k1 q.symm))).kept (putM_grown w' b _) (Or.inr (by rw [e1]; simp; omega))⟩
  · intro y z v u hne hv hu
    rw [get_putL] at hv hu
    by_cases c : x = y
    · by_cases c2 : x = z
      · exact absurd (c.symm.trans c2) hne
      · rw [if_pos c] at hv
        rw [if_neg c2] at hu
        injection hv with hv
        rw [← hv]
        exact fun q => (key z u (fun h => c2 h.symm) hu).2 q.symm
    · rw [if_neg c] at hv
      by_cases c2 : x = z
      · rw [if_pos c2] at hu
        injection hu with hu
        rw [← hu]
        exact (key y v (fun h => c h.symm) hv).2
      · rw [if_neg c2] at hu
        exact h.apart y z v u hne hv hu
theorem gm_made (w : World) (e sz : Nat) (C : Nat → List Value) : Gm (w.alloc (.map #[] 0)) w.heap.size e sz C (fun _ => []) [] :=
  ⟨atM_made w, fun _ _ => rfl, fun x v hv => by simp [get] at hv, fun x y v u _ hv => by simp [get] at hv⟩
end
theorem flat_at (C : Nat → List Value) (sz : Nat) (hC : ∀ i, (C i).length = sz) (l : List Nat) (j r : Nat) (hj : j < l.length) (hr : r < sz) : (l.flatMap C)[j * sz + r]? = (C (l.getD j 0))[r]? := by
  induction l generalizing j with
  | nil => simp at hj
  | cons a l ih =>
    rw [List.flatMap_cons]
    cases j with
    | zero => rw [Nat.zero_mul, Nat.zero_add, List.getElem?_append_left (by rw [hC]; exact hr)]; rfl
    | succ j =>
      have e : (j + 1) * sz + r = (j * sz + r) + sz := by rw [Nat.succ_mul]; omega
      rw [List.getElem?_append_right (by rw [hC, e]; omega), hC, e, Nat.add_sub_cancel, ih j (by simpa using hj)]
      rfl
/-- A map of names to rows of names that can be read. -/
def PRd (w : World) (pb : Nat) (P : St → List St) : Prop := ∃ L, atM w pb L ∧ ∀ x, ∃ ao cap, atv L x = .slice ao (P x).length cap ∧ (ao = none → P x = [] ∧ cap = 0) ∧ StrRd w ao (P x)
theorem PRd.on {w w' : World} {pb : Nat} {P : St → List St} (h : PRd w pb P) (hb : Below w.heap.size w w') : PRd w' pb P := by
  obtain ⟨L, h1, h2⟩ := h
  refine ⟨L, (hb.block _ (atM_lt h1)).trans h1, fun x => ?_⟩
  obtain ⟨ao, cap, h3, h4, h5⟩ := h2 x
  exact ⟨ao, cap, h3, h4, h5.on hb⟩
theorem zero24 (w : World) : (zeroValue 24).run Try.prog w = .ok (.slice none 0 0) w := by kernel_rfl
theorem PRd.look {w : World} {pb : Nat} {P : St → List St} (h : PRd w pb P) (x : St) : ∃ ao cap, (Instr.lookup 39 (.map (some pb)) (.string x) false).run Try.prog w = .ok (.slice ao (P x).length cap) w ∧ (ao = none → P x = [] ∧ cap = 0) ∧ StrRd w ao (P x) := by
  obtain ⟨L, h1, h2⟩ := h
  obtain ⟨ao, cap, h3, h4, h5⟩ := h2 x
  refine ⟨ao, cap, ?_, h4, h5⟩
  have := look_any 39 24 Try.underlying39 _ (zero24 _) h1 x
  rw [this]
  unfold atv at h3
  rw [h3]
def Cs (E : Ed) (i : Nat) : List Value := [.string (eg E i)]
theorem getD_map {α β : Type} (f : α → β) (l : List α) (j : Nat) (d : α) (d' : β) (h : j < l.length) : (l.map f).getD j d' = f (l.getD j d) := by
  simp [List.getD_eq_getElem?_getD, h]
theorem Gm.prd {w : World} {b : Nat} {E : Ed} {L : List (St × Value)} (h : Gm w b 9 1 (Cs E) (ix E E.length) L) : PRd w b (par E) := by
  refine ⟨L, h.m, fun x => ?_⟩
  have ho := h.own x
  have hl : (par E x).length = (ix E E.length x).length := by simp [par]
  by_cases hx : ix E E.length x = []
  · rw [hx] at ho
    have hp : par E x = [] := by unfold par; rw [hx]; rfl
    rcases ho.2 with ⟨e1, _⟩ | ⟨g, cap, cur, e1, _⟩
    · exact ⟨none, 0, by rw [e1, hp]; rfl, fun _ => ⟨hp, rfl⟩, Or.inl hp⟩
    · exact ⟨some ⟨g, 0, none⟩, cap, by rw [e1, hp]; rfl, (fun c => by cases c), Or.inl hp⟩
  · obtain ⟨g, cap, e1, h1, h2, h3⟩ := own_some ho (fun c => hx (List.eq_nil_of_length_eq_zero c))
    refine ⟨some ⟨g, 0, none⟩, cap, by rw [e1, hl], (fun c => by cases c), Or.inr ⟨g, 0, rfl, h2, fun i hi => ?_⟩⟩
    rw [e1] at ho
    rw [hl] at hi
    rw [Nat.zero_add, ho.cellAt i (by omega)]
    have := flat_at (Cs E) 1 (fun _ => rfl) (ix E E.length x) i 0 hi (by omega)
    rw [Nat.mul_one, Nat.add_zero] at this
    rw [this, par, getD_map (eg E) _ i 0 _ hi]
    rfl
end Go.Proofs.Qxb6603449a.BL
