import Derived.Test.Qxb6603449aBl4
namespace Go.Proofs.Qxb6603449a.BL
open Go.RowKit Go.ChangeMaps
set_option linter.unusedVariables false
set_option linter.unusedSimpArgs false

/-! ### What stays when one row is written -/
theorem below_grown {N : Nat} {w wr wq : World} {row : Option Nat} (h : Below N w wr) (hg : wr.grownBy wq row) (hN : N ≤ wr.heap.size) (hrow : ∀ k, row = some k → N ≤ k) : Below N w wq :=
  h.trans ⟨hg.os, hg.tape, hg.output, hg.size, fun j hj => hg.block j (by omega) (fun e => by have := hrow j e.symm; omega)⟩
theorem atM_grown {w w' : World} {b : Nat} {L : List (St × Value)} {row : Option Nat} (h : atM w b L) (hg : w.grownBy w' row) (hne : row ≠ some b) : atM w' b L := (hg.block b (atM_lt h) (fun e => hne e.symm)).trans h
theorem atR_grown {w w' : World} {g : Nat} {T : TypeId} {V : List Value} {row : Option Nat} (h : atR w g T V) (hg : w.grownBy w' row) (hne : row ≠ some g) : atR w' g T V := (hg.block g (atR_lt h) (fun e => hne e.symm)).trans h
theorem putM_grown (w : World) (b : Nat) (L : List (St × Value)) : w.grownBy (putM w b L) (some b) :=
  ⟨rfl, rfl, rfl, by rw [putM_size]; exact Nat.le_refl _, fun k _ hk => putM_other w b k L (fun e => hk (by rw [e]))⟩
theorem get_const {α : Type} (F : List St) (v : α) (x : St) : get (F.map fun s => (s, v)) x = if x ∈ F then some v else none := by
  unfold get
  induction F with
  | nil => simp
  | cons a F ih =>
    simp only [List.map_cons, List.find?_cons]
    by_cases e : a = x
    · simp [e]
    · have e' : (a == x) = false := by simpa using e
      rw [e']
      have e2 : ¬ x = a := fun c => e c.symm
      simp only [List.mem_cons, e2, false_or]
      exact ih
def bools (F : List St) : List (St × Value) := F.map fun s => (s, Value.bool true)
theorem bools_snoc (F : List St) (m : St) : bools F ++ [(m, .bool true)] = bools (F ++ [m]) := by simp [bools]
theorem bools_len (F : List St) : (bools F).length = F.length := by simp [bools]
theorem get_in {F : List St} {x : St} (h : x ∈ F) : get (bools F) x = some (.bool true) := by unfold bools; rw [get_const, if_pos h]
theorem get_out {F : List St} {x : St} (h : x ∉ F) : get (bools F) x = none := by unfold bools; rw [get_const, if_neg h]

/-! ### The walk's own row, and all that 'below' holds -/
def ptr (γ : Nat → Nat) (k : Nat) : Value := .pointer (some ⟨γ k, 0, none⟩)
structure Bst (w wr : World) (hB bF mB : Nat) (lv v2 v3 : Value) (F : List St) (wv : Value) (W : List Nat) (γ : Nat → Nat) : Prop where
  fm : atM wr bF (bools F)
  bx : atR wr hB 53 [lv, .map (some mB), v2, v3]
  own : wr.ownsRow w.heap.size 54 1 wv W.length (W.map (ptr γ))
  nf : wv.ownBlock ≠ some bF
  nb : wv.ownBlock ≠ some hB
  lf : w.heap.size ≤ bF
  lh : w.heap.size ≤ hB
  ne : hB ≠ bF
  below : Below w.heap.size w wr
section
variable {w wr wq : World} {hB bF mB : Nat} {lv v2 v3 wv : Value} {F : List St} {W : List Nat} {γ : Nat → Nat}
theorem Bst.alloc (h : Bst w wr hB bF mB lv v2 v3 F wv W γ) (o : Obj) : Bst w (wr.alloc o) hB bF mB lv v2 v3 F wv W γ :=
  ⟨atM_alloc h.fm o, by unfold atR; rw [Below.heap_alloc wr o hB (atR_lt h.bx)]; exact h.bx, h.own.alloc o, h.nf, h.nb, h.lf, h.lh, h.ne, h.below.alloc h.below.size o⟩
theorem Bst.put (h : Bst w wr hB bF mB lv v2 v3 F wv W γ) (m : St) : Bst w (putM wr bF (bools (F ++ [m]))) hB bF mB lv v2 v3 (F ++ [m]) wv W γ :=
  ⟨putM_same (atM_lt h.fm) _, atR_grown h.bx (putM_grown _ _ _) (fun e => h.ne (by injection e with e; exact e.symm)), h.own.kept (putM_grown _ _ _) (Or.inr h.nf), h.nf, h.nb, h.lf, h.lh, h.ne, below_grown h.below (putM_grown _ _ _) h.below.size (fun k hk => by injection hk with hk; rw [← hk]; exact h.lf)⟩
theorem own_blk {base e size n : Nat} {xs : List Value} {v : Value} {u : World} (h : u.ownsRow base e size v n xs) : ∀ k, v.ownBlock = some k → base ≤ k := fun k hk => (h.lt k hk).1
theorem Bst.push (h : Bst w wr hB bF mB lv v2 v3 F wv W γ) (k g cap : Nat) (hown : wq.ownsRow w.heap.size 54 1 (.slice (some ⟨g, 0, none⟩) (W.length + 1) cap) (W.length + 1) (W.map (ptr γ) ++ [ptr γ k])) (hg : wr.grownBy wq wv.ownBlock) (hat : wv.ownBlock = some g ∨ g = wr.heap.size) :
    Bst w wq hB bF mB lv v2 v3 F (.slice (some ⟨g, 0, none⟩) (W.length + 1) cap) (W ++ [k]) γ := by
  have hgf : g ≠ bF := by
    rcases hat with c | c
    · intro e; exact h.nf (by rw [c, e])
    · have := atM_lt h.fm; omega
  have hgb : g ≠ hB := by
    rcases hat with c | c
    · intro e; exact h.nb (by rw [c, e])
    · have := atR_lt h.bx; omega
  refine ⟨atM_grown h.fm hg h.nf, atR_grown h.bx hg h.nb, ?_, ?_, ?_, h.lf, h.lh, h.ne, below_grown h.below hg h.below.size (own_blk h.own)⟩
  · simpa [List.map_append] using hown
  · simp [Value.ownBlock]; exact hgf
  · simp [Value.ownBlock]; exact hgb
theorem Bst.pop {g cap k : Nat} (h : Bst w wr hB bF mB lv v2 v3 F (.slice (some ⟨g, 0, none⟩) (W.length + 1) cap) (W ++ [k]) γ) : Bst w wr hB bF mB lv v2 v3 F (.slice (some ⟨g, 0, none⟩) W.length cap) W γ := by
  refine ⟨h.fm, h.bx, ?_, h.nf, h.nb, h.lf, h.lh, h.ne, h.below⟩
  have ho := h.own
  refine ⟨by simp, Or.inr ?_⟩
  rcases ho.2 with ⟨c, _⟩ | ⟨g', cap', cur, e, h1, h2, h3, h4, h5, h6⟩
  · cases c
  · simp only [Value.slice.injEq, Option.some.injEq, Addr.mk.injEq] at e
    obtain ⟨⟨rfl, _, _⟩, _, rfl⟩ := e
    refine ⟨g, cap, cur, rfl, h1, h2, by simp at h3; omega, h4, h5, ?_⟩
    have := congrArg (List.take W.length) h6
    simpa [List.take_take] using this
theorem Bst.top {g cap k : Nat} (h : Bst w wr hB bF mB lv v2 v3 F (.slice (some ⟨g, 0, none⟩) (W.length + 1) cap) (W ++ [k]) γ) : wr.cell? ⟨g, W.length, none⟩ = some (ptr γ k) := by
  have := h.own.cells (g := g) rfl W.length (ptr γ k) (by simp)
  rw [Addr.add_lit, Nat.zero_add] at this
  exact this
end
theorem info54 : (Try.prog.info? 54).map (fun i => (i.zero, i.size, i.bytes)) = some (some (.pointer none), 1, 8) := by kernel_rfl
theorem wpList_push {w : World} {ops : Array Oper} {rest : List Oper} {o : Oper} {a : Act} {Q : Exit → Act → World → Prop} (hgd : o.guard = none) (s x : Operand)
    (ho : o.op = .call { callee := .builtin .append, args := #[s, x], argTypes := #[50, 50] }) (base n : Nat) (v p : Value) (xs : List Value) (hs : a.eval s = v) (hown : w.ownsRow base 54 1 v n xs) (B : Nat) (hx : a.eval x = .slice (some ⟨B, 0, none⟩) 1 1)
    (hB : w.heap[B]? = some (.cells #[p] 54 (0, 0))) (h1 : p.oneCell' = true) (hn : n ≤ 1048576) (hbase : base ≤ w.heap.size)
    (h : ∀ g cap w', w'.ownsRow base 54 1 (.slice (some ⟨g, 0, none⟩) (n + 1) cap) (n + 1) (xs ++ [p]) → w.grownBy w' v.ownBlock → (v.ownBlock = some g ∨ g = w.heap.size) → wpList Try.prog ops Q rest (a.put o.dst (.slice (some ⟨g, 0, none⟩) (n + 1) cap)) w') :
    wpList Try.prog ops Q (o :: rest) a w := by
  obtain ⟨i, hi, hz0, hz1, hz2⟩ := info_parts info54
  refine wpList_append_lies w hgd s x 50 ho base 54 i _ 1 8 Try.underlying50 hi hz0 hz1 hz2 rfl (by omega) v n xs hs hown ⟨B, 0, none⟩ 1 1 [p] hx (by simp) (World.news_of_block hB) (fun u hu => by rw [List.mem_singleton] at hu; rw [hu]; exact h1) (by omega) (by unfold maxLen; omega) (by omega) hbase _ rfl ?_
  intro g cap w' h2 h3 h4 h5
  exact h g cap w' h2 h3 h4

/-! ### A group in memory -/
def Grp (w : World) (γ : Nat) (ms : List St) : Prop := γ < w.heap.size ∧ ∃ ao cap, w.cell? ⟨γ, 1, none⟩ = some (.slice ao ms.length cap) ∧
  (ms = [] ∨ ∃ b off, ao = some ⟨b, off, none⟩ ∧ b < w.heap.size ∧ ∀ j, j < ms.length → ∃ q, w.cell? ⟨b, off + j * 2, none⟩ = some (.string (ms.getD j ByteArray.empty)) ∧ w.cell? ⟨b, off + j * 2 + 1, none⟩ = some (.int .i64 q))
theorem Grp.on {w w' : World} {γ : Nat} {ms : List St} (h : Grp w γ ms) (hb : Below w.heap.size w w') : Grp w' γ ms := by
  obtain ⟨h1, ao, cap, h2, h3⟩ := h
  refine ⟨by have := hb.size; omega, ao, cap, (hb.cell (p := ⟨γ, 1, none⟩) h1).trans h2, ?_⟩
  rcases h3 with h3 | ⟨b, off, e, hlt, hc⟩
  · exact Or.inl h3
  · refine Or.inr ⟨b, off, e, by have := hb.size; omega, fun j hj => ?_⟩
    obtain ⟨q, c1, c2⟩ := hc j hj
    exact ⟨q, (hb.cell (p := ⟨b, _, none⟩) hlt).trans c1, (hb.cell (p := ⟨b, _, none⟩) hlt).trans c2⟩
end Go.Proofs.Qxb6603449a.BL
