import Derived.Test.Qxb6603449aPa
namespace Go.Proofs.Qxb6603449a.BL
set_option linter.unusedVariables false
set_option linter.unusedSimpArgs false
/-! ### Names reached from a group: no Go in sight -/
abbrev St := ByteArray
instance lawful : LawfulBEq ByteArray where
  eq_of_beq {a b} h := by
    cases a; cases b
    congr
    exact eq_of_beq (α := Array UInt8) h
  rfl {a} := by
    cases a
    exact beq_self_eq_true (α := Array UInt8) _
def nm (N : List St) (k : Nat) : St := N.getD k ByteArray.empty
def mm (Ms : List (List St)) (k : Nat) : List St := Ms.getD k []
/-- k is the first group of its name. -/
def Fst (N : List St) (k : Nat) : Prop := k < N.length ∧ ∀ j, j < k → nm N j ≠ nm N k
inductive Rch (N : List St) (Ms : List (List St)) (name : St) : St → Prop where
  | one (k : Nat) (hk : Fst N k) (hn : nm N k = name) (m : St) (hm : m ∈ mm Ms k) : Rch N Ms name m
  | more (k : Nat) (hk : Fst N k) (hn : Rch N Ms name (nm N k)) (m : St) (hm : m ∈ mm Ms k) : Rch N Ms name m
theorem Rch.step {N : List St} {Ms : List (List St)} {name : St} (k : Nat) (hk : Fst N k) (hn : nm N k = name ∨ Rch N Ms name (nm N k)) (m : St) (hm : m ∈ mm Ms k) : Rch N Ms name m := by
  rcases hn with h | h
  · exact Rch.one k hk h m hm
  · exact Rch.more k hk h m hm
section
variable {N : List St} {Ms : List (List St)} {name : St}
def Closed (N : List St) (Ms : List (List St)) (name : St) (F : List St) : Prop := ∀ k, Fst N k → (nm N k = name ∨ nm N k ∈ F) → ∀ m ∈ mm Ms k, m ∈ F
theorem rch_in {F : List St} (hc : Closed N Ms name F) {x : St} (h : Rch N Ms name x) : x ∈ F := by
  induction h with
  | one k hk hn m hm => exact hc k hk (Or.inl hn) m hm
  | more k hk hn m hm ih => exact hc k hk (Or.inr ih) m hm
theorem rch_iff {F : List St} (hc : Closed N Ms name F) (hs : ∀ x ∈ F, Rch N Ms name x) (x : St) : x ∈ F ↔ Rch N Ms name x := ⟨hs x, rch_in hc⟩
theorem fst_uniq {j k : Nat} (hj : Fst N j) (hk : Fst N k) (h : nm N j = nm N k) : j = k := by
  rcases Nat.lt_trichotomy j k with c | c | c
  · exact absurd h (hk.2 j c)
  · exact c
  · exact absurd h.symm (hj.2 k c)
theorem fst_of {i : Nat} (hi : i < N.length) : ∃ k, k ≤ i ∧ Fst N k ∧ nm N k = nm N i := by
  induction i using Nat.strongRecOn with
  | ind i ih =>
    by_cases h : ∃ j, j < i ∧ nm N j = nm N i
    · obtain ⟨j, hj, e⟩ := h
      obtain ⟨k, hk, hf, e2⟩ := ih j hj (by omega)
      exact ⟨k, by omega, hf, by rw [e2, e]⟩
    · exact ⟨i, Nat.le_refl _, ⟨hi, fun j hj e => h ⟨j, hj, e⟩⟩, rfl⟩
/-- A depth-first walk: F found, W still to be walked. -/
structure Dfs (N : List St) (Ms : List (List St)) (name : St) (F : List St) (W : List Nat) : Prop where
  nodup : F.Nodup
  sub : ∀ x ∈ F, Rch N Ms name x
  wok : ∀ k ∈ W, Fst N k ∧ (nm N k = name ∨ nm N k ∈ F)
  closed : ∀ k, Fst N k → (nm N k = name ∨ nm N k ∈ F) → k ∈ W ∨ ∀ m ∈ mm Ms k, m ∈ F
  len : W.length ≤ F.length + 1
structure DfsIn (N : List St) (Ms : List (List St)) (name : St) (F : List St) (W : List Nat) (g j : Nat) : Prop where
  nodup : F.Nodup
  sub : ∀ x ∈ F, Rch N Ms name x
  wok : ∀ k ∈ W, Fst N k ∧ (nm N k = name ∨ nm N k ∈ F)
  gok : Fst N g ∧ (nm N g = name ∨ nm N g ∈ F)
  closed : ∀ k, Fst N k → (nm N k = name ∨ nm N k ∈ F) → k ∈ W ∨ k = g ∨ ∀ m ∈ mm Ms k, m ∈ F
  done : ∀ t, t < j → (mm Ms g).getD t ByteArray.empty ∈ F
  len : W.length ≤ F.length
theorem dfs_start_none (h : ∀ k, Fst N k → nm N k ≠ name) : Dfs N Ms name [] [] :=
  ⟨List.nodup_nil, fun x hx => by simp at hx, fun k hk => by simp at hk, fun k hk hn => by rcases hn with hn | hn; exact absurd hn (h k hk); simp at hn, by simp⟩
theorem dfs_start_some {k : Nat} (hk : Fst N k) (hn : nm N k = name) : Dfs N Ms name [] [k] :=
  ⟨List.nodup_nil, fun x hx => by simp at hx, fun j hj => by rw [List.mem_singleton] at hj; rw [hj]; exact ⟨hk, Or.inl hn⟩,
    fun j hj hjn => by
      rcases hjn with hjn | hjn
      · exact Or.inl (by rw [List.mem_singleton]; exact fst_uniq hj hk (by rw [hjn, hn]))
      · simp at hjn, by simp⟩
theorem Dfs.pop {F : List St} {W : List Nat} {g : Nat} (h : Dfs N Ms name F (W ++ [g])) : DfsIn N Ms name F W g 0 :=
  ⟨h.nodup, h.sub, fun k hk => h.wok k (List.mem_append_left _ hk), h.wok g (by simp), fun k hk hn => by
    rcases h.closed k hk hn with c | c
    · rcases List.mem_append.1 c with c | c
      · exact Or.inl c
      · exact Or.inr (Or.inl (by simpa using c))
    · exact Or.inr (Or.inr c), fun t ht => by omega, by have := h.len; simp at this; omega⟩
theorem DfsIn.seen {F : List St} {W : List Nat} {g j : Nat} {m : St} (h : DfsIn N Ms name F W g j) (hm : (mm Ms g).getD j ByteArray.empty = m) (hs : m ∈ F) : DfsIn N Ms name F W g (j + 1) :=
  ⟨h.nodup, h.sub, h.wok, h.gok, h.closed, fun t ht => by
    by_cases e : t = j
    · rw [e, hm]; exact hs
    · exact h.done t (by omega), h.len⟩
theorem mem_snoc {F : List St} {x m : St} (h : x ∈ F) : x ∈ F ++ [m] := List.mem_append_left _ h
theorem getD_mem {l : List St} {j : Nat} (h : j < l.length) : l.getD j ByteArray.empty ∈ l := by
  have e : l.getD j ByteArray.empty = l[j] := by simp [h]
  rw [e]; exact List.getElem_mem h
theorem DfsIn.new {F : List St} {W : List Nat} {g j : Nat} {m : St} (h : DfsIn N Ms name F W g j) (hj : j < (mm Ms g).length) (hm : (mm Ms g).getD j ByteArray.empty = m) (hs : m ∉ F)
    (X : List Nat) (hX : (∃ k, X = [k] ∧ Fst N k ∧ nm N k = m) ∨ (X = [] ∧ ∀ k, Fst N k → nm N k ≠ m)) : DfsIn N Ms name (F ++ [m]) (W ++ X) g (j + 1) := by
  refine ⟨?_, ?_, ?_, ?_, ?_, ?_, ?_⟩
  · rw [List.nodup_append]
    exact ⟨h.nodup, by simp, fun a ha b hb => by rw [List.mem_singleton] at hb; rw [hb]; exact fun e => hs (e ▸ ha)⟩
  · intro x hx
    rcases List.mem_append.1 hx with hx | hx
    · exact h.sub x hx
    · rw [List.mem_singleton] at hx
      rw [hx]
      refine Rch.step g h.gok.1 ?_ m (by rw [← hm]; exact getD_mem hj)
      rcases h.gok.2 with c | c
      · exact Or.inl c
      · exact Or.inr (h.sub _ c)
  · intro k hk
    rcases List.mem_append.1 hk with hk | hk
    · obtain ⟨a, b⟩ := h.wok k hk
      exact ⟨a, b.imp id mem_snoc⟩
    · rcases hX with ⟨k', rfl, hf, hn⟩ | ⟨rfl, _⟩
      · rw [List.mem_singleton] at hk
        rw [hk]; exact ⟨hf, Or.inr (by rw [hn]; simp)⟩
      · simp at hk
  · exact ⟨h.gok.1, h.gok.2.imp id mem_snoc⟩
  · intro k hk hn
    by_cases hold : nm N k = name ∨ nm N k ∈ F
    · rcases h.closed k hk hold with c | c | c
      · exact Or.inl (List.mem_append_left _ c)
      · exact Or.inr (Or.inl c)
      · exact Or.inr (Or.inr fun y hy => mem_snoc (c y hy))
    · have e : nm N k = m := by
        rcases hn with c | c
        · exact absurd (Or.inl c) hold
        · rcases List.mem_append.1 c with c | c
          · exact absurd (Or.inr c) hold
          · simpa using c
      rcases hX with ⟨k', rfl, hf, hn'⟩ | ⟨rfl, hno⟩
      · left; rw [fst_uniq hk hf (by rw [e, hn'])]; simp
      · exact absurd e (hno k hk)
  · intro t ht
    by_cases e : t = j
    · rw [e, hm]; simp
    · exact mem_snoc (h.done t (by omega))
  · have := h.len
    rcases hX with ⟨k', rfl, _⟩ | ⟨rfl, _⟩
    · simp; omega
    · simp; omega
theorem mem_getD {l : List St} {m : St} (h : m ∈ l) : ∃ t, t < l.length ∧ l.getD t ByteArray.empty = m := by
  obtain ⟨t, ht, e⟩ := List.getElem_of_mem h
  exact ⟨t, ht, by simp [ht, e]⟩
theorem DfsIn.out {F : List St} {W : List Nat} {g j : Nat} (h : DfsIn N Ms name F W g j) (hj : (mm Ms g).length ≤ j) : Dfs N Ms name F W :=
  ⟨h.nodup, h.sub, h.wok, fun k hk hn => by
    rcases h.closed k hk hn with c | c | c
    · exact Or.inl c
    · right; intro m hm
      rw [c] at hm
      obtain ⟨t, ht, e⟩ := mem_getD hm
      rw [← e]; exact h.done t (by omega)
    · exact Or.inr c, by have := h.len; omega⟩
theorem Dfs.fin {F : List St} (h : Dfs N Ms name F []) (x : St) : x ∈ F ↔ Rch N Ms name x :=
  rch_iff (fun k hk hn => by rcases h.closed k hk hn with c | c; simp at c; exact c) h.sub x

/-! ### How many names there can be -/
theorem nodup_len {l m : List St} (hn : l.Nodup) (hs : ∀ x ∈ l, x ∈ m) : l.length ≤ m.length := by
  induction l generalizing m with
  | nil => simp
  | cons a l ih =>
    have ha : a ∈ m := hs a List.mem_cons_self
    have h1 : l.Nodup := (List.nodup_cons.1 hn).2
    have h2 : a ∉ l := (List.nodup_cons.1 hn).1
    have := ih (m := m.erase a) h1 fun x hx => (List.mem_erase_of_ne (show x ≠ a from fun e => h2 (e ▸ hx))).2 (hs x (List.mem_cons_of_mem _ hx))
    rw [List.length_erase_of_mem ha] at this
    have : 0 < m.length := List.length_pos_of_mem ha
    simp; omega
def tot (Ms : List (List St)) : Nat := Ms.flatten.length
theorem rch_flat {x : St} (h : Rch N Ms name x) : x ∈ Ms.flatten := by
  have key : ∀ k, ∀ m ∈ mm Ms k, m ∈ Ms.flatten := fun k m hm => by
    unfold mm at hm
    by_cases hl : k < Ms.length
    · have e : Ms.getD k [] = Ms[k] := by simp [hl]
      rw [e] at hm
      exact List.mem_flatten.2 ⟨_, List.getElem_mem hl, hm⟩
    · have e : Ms.getD k [] = [] := by simp [show Ms.length ≤ k by omega]
      rw [e] at hm; simp at hm
  cases h with
  | one k hk hn m hm => exact key k _ hm
  | more k hk hn m hm => exact key k _ hm
theorem found_le {F : List St} (hn : F.Nodup) (hs : ∀ x ∈ F, Rch N Ms name x) : F.length ≤ tot Ms := nodup_len hn fun x hx => rch_flat (hs x hx)
theorem same_len {F H : List St} (hF : F.Nodup) (hH : H.Nodup) (h : ∀ x, x ∈ F ↔ x ∈ H) : F.length = H.length :=
  Nat.le_antisymm (nodup_len hF fun x hx => (h x).1 hx) (nodup_len hH fun x hx => (h x).2 hx)
end

/-! ### A map of names, as the list of its entries -/
def get {α : Type} (L : List (St × α)) (x : St) : Option α := (L.find? fun p => p.1 == x).map (·.2)
theorem get_snoc {α : Type} (L : List (St × α)) (x y : St) (v : α) (h : get L x = none) : get (L ++ [(x, v)]) y = if x = y then some v else get L y := by
  unfold get at *
  rw [List.find?_append]
  by_cases e : x = y
  · subst e
    have h' : L.find? (fun p => p.1 == x) = none := by simpa using h
    rw [h', if_pos rfl]; simp
  · rw [if_neg e]
    have e1 : List.find? (fun p => p.1 == y) [(x, v)] = none := by simp [e]
    rw [e1]
    cases L.find? (fun p => p.1 == y) <;> rfl
/-- The map of the first groups below i: each name to what stands for its first group. -/
def Nmd {α : Type} (N : List St) (ptr : Nat → α) (NM : List (St × α)) (i : Nat) : Prop :=
  (∀ x v, get NM x = some v → ∃ k, k < i ∧ Fst N k ∧ nm N k = x ∧ v = ptr k) ∧ (∀ k, k < i → Fst N k → get NM (nm N k) = some (ptr k))
theorem nmd_zero {α : Type} (N : List St) (ptr : Nat → α) : Nmd N ptr [] 0 := ⟨fun x v h => by simp [get] at h, fun k hk => by omega⟩
theorem Nmd.first {α : Type} {N : List St} {ptr : Nat → α} {NM : List (St × α)} {i : Nat} (h : Nmd N ptr NM i) (hi : i < N.length) (hg : get NM (nm N i) = none) : Fst N i := by
  refine ⟨hi, fun j hj e => ?_⟩
  obtain ⟨k, hk, hf, e2⟩ := fst_of (N := N) (i := j) (by omega)
  have := h.2 k (by omega) hf
  rw [e2, e, hg] at this
  cases this
theorem Nmd.add {α : Type} {N : List St} {ptr : Nat → α} {NM : List (St × α)} {i : Nat} (h : Nmd N ptr NM i) (hi : i < N.length) (hg : get NM (nm N i) = none) : Nmd N ptr (NM ++ [(nm N i, ptr i)]) (i + 1) := by
  have hf := h.first hi hg
  refine ⟨fun x v hv => ?_, fun k hk hfk => ?_⟩
  · rw [get_snoc NM _ x _ hg] at hv
    by_cases e : nm N i = x
    · rw [if_pos e] at hv
      exact ⟨i, by omega, hf, e, by injection hv with hv; exact hv.symm⟩
    · rw [if_neg e] at hv
      obtain ⟨k, hk, a, b, c⟩ := h.1 x v hv
      exact ⟨k, by omega, a, b, c⟩
  · rw [get_snoc NM _ _ _ hg]
    by_cases e : k = i
    · rw [e, if_pos rfl]
    · rw [if_neg (fun c => hf.2 k (by omega) c.symm)]; exact h.2 k (by omega) hfk
theorem Nmd.old {α : Type} {N : List St} {ptr : Nat → α} {NM : List (St × α)} {i : Nat} (h : Nmd N ptr NM i) {v : α} (hg : get NM (nm N i) = some v) : ¬ Fst N i ∧ Nmd N ptr NM (i + 1) := by
  obtain ⟨k, hk, hf, e, _⟩ := h.1 _ _ hg
  have hnf : ¬ Fst N i := fun c => c.2 k hk e
  refine ⟨hnf, fun x v hv => ?_, fun j hj hfj => ?_⟩
  · obtain ⟨k, hk, a⟩ := h.1 x v hv
    exact ⟨k, by omega, a⟩
  · by_cases e2 : j = i
    · exact absurd (e2 ▸ hfj) hnf
    · exact h.2 j (by omega) hfj
theorem Nmd.yes {α : Type} {N : List St} {ptr : Nat → α} {NM : List (St × α)} (h : Nmd N ptr NM N.length) {x : St} {v : α} (hg : get NM x = some v) : ∃ k, Fst N k ∧ nm N k = x ∧ v = ptr k := by
  obtain ⟨k, _, a⟩ := h.1 x v hg
  exact ⟨k, a⟩
theorem Nmd.no {α : Type} {N : List St} {ptr : Nat → α} {NM : List (St × α)} (h : Nmd N ptr NM N.length) {x : St} (hg : get NM x = none) : ∀ k, Fst N k → nm N k ≠ x := fun k hk e => by
  have := h.2 k hk.1 hk
  rw [e, hg] at this; cases this
theorem get_bools (F : List St) (x : St) : get (F.map fun s => (s, true)) x = if x ∈ F then some true else none := by
  unfold get
  induction F with
  | nil => simp
  | cons a F ih =>
    simp only [List.map_cons, List.find?_cons]
    by_cases e : a = x
    · simp [e]
    · have e' : (a == x) = false := by simpa using e
      rw [e']
      have e2 : ¬ x = a := fun c => e c.symm
      simp only [List.mem_cons, e2, false_or]
      exact ih

/-! ### The model's rounds -/
structure Rnd (N : List St) (Ms : List (List St)) (name : St) (H : List St) (c : Bool) (r i : Nat) : Prop where
  nodup : H.Nodup
  sub : ∀ x ∈ H, Rch N Ms name x
  len : r ≤ H.length
  grew : c = true → r + 1 ≤ H.length
  shut : c = false → ∀ k, k < i → Fst N k → (nm N k = name ∨ nm N k ∈ H) → ∀ m ∈ mm Ms k, m ∈ H
structure RndIn (N : List St) (Ms : List (List St)) (name : St) (H : List St) (c : Bool) (r i j : Nat) : Prop where
  r : Rnd N Ms name H c r i
  done : c = false → ∀ t, t < j → (mm Ms i).getD t ByteArray.empty ∈ H
  gok : Fst N i ∧ (nm N i = name ∨ nm N i ∈ H)
section
variable {N : List St} {Ms : List (List St)} {name : St} {H : List St} {c : Bool} {r i j : Nat}
theorem Rnd.skip (h : Rnd N Ms name H c r i) (hs : ¬ Fst N i ∨ ¬ (nm N i = name ∨ nm N i ∈ H)) : Rnd N Ms name H c r (i + 1) :=
  ⟨h.nodup, h.sub, h.len, h.grew, fun hc k hk hf hn => by
    by_cases e : k = i
    · rw [e] at hf hn; rcases hs with hs | hs
      · exact absurd hf hs
      · exact absurd hn hs
    · exact h.shut hc k (by omega) hf hn⟩
theorem Rnd.into (h : Rnd N Ms name H c r i) (hf : Fst N i) (hn : nm N i = name ∨ nm N i ∈ H) : RndIn N Ms name H c r i 0 := ⟨h, fun _ t ht => by omega, hf, hn⟩
theorem RndIn.old (h : RndIn N Ms name H c r i j) {m : St} (hm : (mm Ms i).getD j ByteArray.empty = m) (hs : m ∈ H) : RndIn N Ms name H c r i (j + 1) :=
  ⟨h.r, fun hc t ht => by
    by_cases e : t = j
    · rw [e, hm]; exact hs
    · exact h.done hc t (by omega), h.gok⟩
theorem RndIn.new (h : RndIn N Ms name H c r i j) {m : St} (hj : j < (mm Ms i).length) (hm : (mm Ms i).getD j ByteArray.empty = m) (hs : m ∉ H) : RndIn N Ms name (H ++ [m]) true r i (j + 1) := by
  refine ⟨⟨?_, ?_, by have := h.r.len; simp; omega, fun _ => by have := h.r.len; simp; omega, fun hc => by cases hc⟩, (fun hc => by cases hc), h.gok.1, h.gok.2.imp id mem_snoc⟩
  · rw [List.nodup_append]
    exact ⟨h.r.nodup, by simp, fun a ha b hb => by rw [List.mem_singleton] at hb; rw [hb]; exact fun e => hs (e ▸ ha)⟩
  · intro x hx
    rcases List.mem_append.1 hx with hx | hx
    · exact h.r.sub x hx
    · rw [List.mem_singleton] at hx
      rw [hx]
      refine Rch.step i h.gok.1 ?_ m (by rw [← hm]; exact getD_mem hj)
      rcases h.gok.2 with q | q
      · exact Or.inl q
      · exact Or.inr (h.r.sub _ q)
theorem RndIn.out (h : RndIn N Ms name H c r i j) (hj : (mm Ms i).length ≤ j) : Rnd N Ms name H c r (i + 1) :=
  ⟨h.r.nodup, h.r.sub, h.r.len, h.r.grew, fun hc k hk hf hn => by
    by_cases e : k = i
    · intro m hm
      rw [e] at hm
      obtain ⟨t, ht, e2⟩ := mem_getD hm
      rw [← e2]; exact h.done hc t (by omega)
    · exact h.r.shut hc k (by omega) hf hn⟩
/-- Ahead of round r. -/
structure Ahead (N : List St) (Ms : List (List St)) (name : St) (H : List St) (c : Bool) (r : Nat) : Prop where
  nodup : H.Nodup
  sub : ∀ x ∈ H, Rch N Ms name x
  grew : c = true → r ≤ H.length
  shut : c = false → Closed N Ms name H
theorem ahead_zero : Ahead N Ms name [] true 0 := ⟨List.nodup_nil, fun x hx => by simp at hx, fun _ => Nat.le_refl _, fun h => by cases h⟩
theorem Ahead.go (h : Ahead N Ms name H true r) : Rnd N Ms name H false r 0 := ⟨h.nodup, h.sub, h.grew rfl, (fun c => by cases c), fun _ k hk => by omega⟩
theorem Rnd.next (h : Rnd N Ms name H c r N.length) : Ahead N Ms name H c (r + 1) := ⟨h.nodup, h.sub, h.grew, fun hc k hf hn => h.shut hc k hf.1 hf hn⟩
theorem Ahead.fin (h : Ahead N Ms name H c r) (hx : c = false ∨ tot Ms < r) (x : St) : x ∈ H ↔ Rch N Ms name x := by
  have hc : c = false := by
    rcases hx with hx | hx
    · exact hx
    · cases c
      · rfl
      · have := h.grew rfl; have := found_le h.nodup h.sub; omega
  exact rch_iff (h.shut hc) h.sub x
end
end Go.Proofs.Qxb6603449a.BL
